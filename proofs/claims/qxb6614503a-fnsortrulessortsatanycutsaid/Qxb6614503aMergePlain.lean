/-
  THE PLAIN LAW OF THE MERGE: no Go in sight.
-/
import Derived.Test.Qxb6614503aPlain
namespace Go.Proofs.Qxb6614503a

/-- What has been merged when i of the na numbers f and j of the nb numbers g have been taken. -/
structure MInv (f g : Nat → Int) (na nb i j : Nat) (xs : List Int) : Prop where
  len : xs.length = i + j
  perm : xs.Perm ((List.range i).map f ++ (List.range j).map g)
  sorted : xs.Pairwise (fun a b => a ≤ b)
  upA : i < na → ∀ x ∈ xs, x ≤ f i
  upB : j < nb → ∀ x ∈ xs, x ≤ g j

theorem MInv.start (f g : Nat → Int) (na nb : Nat) : MInv f g na nb 0 0 [] := by
  refine ⟨rfl, by simp, by simp, fun _ x h => ?_, fun _ x h => ?_⟩
  · cases h
  · cases h

theorem sorted_snoc {xs : List Int} {x : Int} (h : xs.Pairwise (fun a b => a ≤ b)) (hu : ∀ y ∈ xs, y ≤ x) : (xs ++ [x]).Pairwise (fun a b => a ≤ b) := by
  rw [List.pairwise_append]
  refine ⟨h, by simp, fun a ha b hb => ?_⟩
  rw [List.mem_singleton] at hb
  rw [hb]
  exact hu a ha

theorem MInv.takeA {f g : Nat → Int} {na nb i j : Nat} {xs : List Int} (h : MInv f g na nb i j xs) (hi : i < na) (hf : ∀ a b, a < b → b < na → f a ≤ f b) (hj : j < nb → f i ≤ g j) : MInv f g na nb (i + 1) j (xs ++ [f i]) := by
  refine ⟨by rw [List.length_append, h.len]; simp; omega, ?_, sorted_snoc h.sorted (h.upA hi), fun hi' x hx => ?_, fun hj' x hx => ?_⟩
  · rw [List.range_succ, List.map_append, List.map_singleton]
    refine (h.perm.append_right [f i]).trans ?_
    rw [List.append_assoc, List.append_assoc]
    exact List.Perm.append_left _ List.perm_append_comm
  · rw [List.mem_append, List.mem_singleton] at hx
    have hs := hf i (i + 1) (by omega) hi'
    rcases hx with hx | hx
    · have := h.upA hi x hx; omega
    · rw [hx]; exact hs
  · rw [List.mem_append, List.mem_singleton] at hx
    rcases hx with hx | hx
    · exact h.upB hj' x hx
    · rw [hx]; exact hj hj'

theorem MInv.takeB {f g : Nat → Int} {na nb i j : Nat} {xs : List Int} (h : MInv f g na nb i j xs) (hj : j < nb) (hg : ∀ a b, a < b → b < nb → g a ≤ g b) (hi : i < na → g j ≤ f i) : MInv f g na nb i (j + 1) (xs ++ [g j]) := by
  refine ⟨by rw [List.length_append, h.len]; simp; omega, ?_, sorted_snoc h.sorted (h.upB hj), fun hi' x hx => ?_, fun hj' x hx => ?_⟩
  · rw [List.range_succ, List.map_append, List.map_singleton, ← List.append_assoc]
    exact h.perm.append_right [g j]
  · rw [List.mem_append, List.mem_singleton] at hx
    rcases hx with hx | hx
    · exact h.upA hi' x hx
    · rw [hx]; exact hi hi'
  · rw [List.mem_append, List.mem_singleton] at hx
    have hs := hg j (j + 1) (by omega) hj'
    rcases hx with hx | hx
    · have := h.upB hj x hx; omega
    · rw [hx]; exact hs

theorem map_getD (xs : List Int) : (List.range xs.length).map (fun j => xs.getD j 0) = xs := by
  refine List.ext_getElem (by simp) (fun i h1 h2 => ?_)
  rw [List.getElem_map, List.getElem_range, List.getD, List.getElem?_eq_getElem h2]
  rfl

/-- The merge of the two sorted parts is the sorted whole. -/
theorem merge_whole {n cut : Nat} {z : Nat → Int} {dw dl dr : Nat → Nat} {xs : List Int} (hc : cut ≤ n) (hw : ((List.range n).map dw).Perm (List.range n)) (hl : ((List.range cut).map dl).Perm (List.range cut)) (hr : ((List.range (n - cut)).map dr).Perm (List.range (n - cut)))
    (sw : ∀ i j, i < j → j < n → z (dw i) ≤ z (dw j)) (h : MInv (fun i => z (dl i)) (fun j => z (cut + dr j)) cut (n - cut) cut (n - cut) xs) : ∀ j, j < n → xs.getD j 0 = z (dw j) := by
  have hlen : xs.length = n := by rw [h.len]; omega
  have p1 : xs.Perm ((List.range n).map z) := by
    refine h.perm.trans ?_
    have e : List.range n = List.range cut ++ (List.range (n - cut)).map (fun j => cut + j) := by
      have e1 : n = cut + (n - cut) := by omega
      conv => lhs; rw [e1]
      rw [List.range_add]
    rw [e, List.map_append, List.map_map]
    exact List.Perm.append (comp_perm z hl) (comp_perm (fun j => z (cut + j)) hr)
  refine sorted_unique ?_ ?_ sw
  · have e := map_getD xs
    rw [hlen] at e
    rw [e]
    exact p1.trans (comp_perm z hw).symm
  · intro i j hij hj
    have hs := h.sorted
    rw [List.pairwise_iff_getElem] at hs
    have h1 := hs i j (by omega) (by omega) hij
    rw [List.getD, List.getElem?_eq_getElem (by omega), List.getD, List.getElem?_eq_getElem (by omega)]
    exact h1
end Go.Proofs.Qxb6614503a
