/-
  THE PLAIN LAWS: no Go in sight: sorted rearrangements of one list are one; the first is the least, the last the greatest.
-/
namespace Go.Proofs.Qxb6614503a

theorem sorted_unique {n : Nat} {f g : Nat → Int} (hp : ((List.range n).map f).Perm ((List.range n).map g)) (hf : ∀ i j, i < j → j < n → f i ≤ f j) (hg : ∀ i j, i < j → j < n → g i ≤ g j) :
    ∀ j, j < n → f j = g j := by
  have sorted : ∀ h : Nat → Int, (∀ i j, i < j → j < n → h i ≤ h j) → ((List.range n).map h).Pairwise (fun a b => a ≤ b) := by
    intro h hh
    rw [List.pairwise_iff_getElem]
    intro i j hi hj hij
    rw [List.getElem_map, List.getElem_map, List.getElem_range, List.getElem_range]
    exact hh i j hij (by simpa using hj)
  have e := List.Perm.eq_of_pairwise (le := fun a b : Int => a ≤ b) (fun a b _ _ h1 h2 => Int.le_antisymm h1 h2) (sorted f hf) (sorted g hg) hp
  intro j hj
  have h1 : ((List.range n).map f)[j]? = some (f j) := by simp [hj]
  have h2 : ((List.range n).map g)[j]? = some (g j) := by simp [hj]
  rw [e, h2] at h1
  exact (Option.some.inj h1).symm

theorem comp_perm {n : Nat} (z : Nat → Int) {d : Nat → Nat} (hd : ((List.range n).map d).Perm (List.range n)) : ((List.range n).map fun j => z (d j)).Perm ((List.range n).map z) := by
  have h := hd.map z
  rw [List.map_map] at h
  exact h

theorem rev_perm (n : Nat) (z : Nat → Int) : ((List.range n).map fun j => z (n - 1 - j)).Perm ((List.range n).map z) := by
  have e : ((List.range n).map fun j => z (n - 1 - j)) = ((List.range n).map z).reverse := by
    refine List.ext_getElem (by simp) (fun i h1 h2 => ?_)
    simp
  rw [e]
  exact List.reverse_perm _

/-- Two sorted rows of the same numbers, one out of the list, one out of the list turned round. -/
theorem same_rev {n : Nat} {z : Nat → Int} {d1 d2 : Nat → Nat} (h1 : ((List.range n).map d1).Perm (List.range n)) (h2 : ((List.range n).map d2).Perm (List.range n))
    (s1 : ∀ i j, i < j → j < n → z (d1 i) ≤ z (d1 j)) (s2 : ∀ i j, i < j → j < n → z (n - 1 - d2 i) ≤ z (n - 1 - d2 j)) : ∀ j, j < n → z (d1 j) = z (n - 1 - d2 j) :=
  sorted_unique ((comp_perm z h1).trans ((comp_perm (fun j => z (n - 1 - j)) h2).trans (rev_perm n z)).symm) s1 s2

theorem same_again {n : Nat} {z : Nat → Int} {d1 d2 : Nat → Nat} (h1 : ((List.range n).map d1).Perm (List.range n)) (h2 : ((List.range n).map d2).Perm (List.range n))
    (s1 : ∀ i j, i < j → j < n → z (d1 i) ≤ z (d1 j)) (s2 : ∀ i j, i < j → j < n → z (d2 i) ≤ z (d2 j)) : ∀ j, j < n → z (d1 j) = z (d2 j) :=
  sorted_unique ((comp_perm z h1).trans (comp_perm z h2).symm) s1 s2

theorem onto {n : Nat} {d : Nat → Nat} (h : ((List.range n).map d).Perm (List.range n)) (t : Nat) (ht : t < n) : ∃ j, j < n ∧ d j = t := by
  have hm : t ∈ (List.range n).map d := h.mem_iff.2 (List.mem_range.2 ht)
  obtain ⟨j, hj, e⟩ := List.mem_map.1 hm
  exact ⟨j, List.mem_range.1 hj, e⟩

theorem into {n : Nat} {d : Nat → Nat} (h : ((List.range n).map d).Perm (List.range n)) (j : Nat) (hj : j < n) : d j < n :=
  List.mem_range.1 (h.mem_iff.1 (List.mem_map.2 ⟨j, List.mem_range.2 hj, rfl⟩))

/-- lo is the least of the first k. -/
def Least (z : Nat → Int) (k : Nat) (lo : Int) : Prop := (∀ j, j < k → lo ≤ z j) ∧ ∃ j, j < k ∧ z j = lo
def Most (z : Nat → Int) (k : Nat) (hi : Int) : Prop := (∀ j, j < k → z j ≤ hi) ∧ ∃ j, j < k ∧ z j = hi

theorem Least.one (z : Nat → Int) : Least z 1 (z 0) := ⟨fun j hj => by have : j = 0 := by omega
                                                                       subst this; exact Int.le_refl _, 0, by omega, rfl⟩
theorem Most.one (z : Nat → Int) : Most z 1 (z 0) := ⟨fun j hj => by have : j = 0 := by omega
                                                                     subst this; exact Int.le_refl _, 0, by omega, rfl⟩

theorem Least.new {z : Nat → Int} {k : Nat} {lo : Int} (h : Least z k lo) (hl : z k < lo) : Least z (k + 1) (z k) := by
  refine ⟨fun j hj => ?_, k, by omega, rfl⟩
  by_cases e : j = k
  · subst e; exact Int.le_refl _
  · have := h.1 j (by omega); omega
theorem Least.old {z : Nat → Int} {k : Nat} {lo : Int} (h : Least z k lo) (hl : ¬ z k < lo) : Least z (k + 1) lo := by
  obtain ⟨h1, j0, hj0, e0⟩ := h
  refine ⟨fun j hj => ?_, j0, by omega, e0⟩
  by_cases e : j = k
  · subst e; omega
  · exact h1 j (by omega)
theorem Most.new {z : Nat → Int} {k : Nat} {hi : Int} (h : Most z k hi) (hl : hi < z k) : Most z (k + 1) (z k) := by
  refine ⟨fun j hj => ?_, k, by omega, rfl⟩
  by_cases e : j = k
  · subst e; exact Int.le_refl _
  · have := h.1 j (by omega); omega
theorem Most.old {z : Nat → Int} {k : Nat} {hi : Int} (h : Most z k hi) (hl : ¬ hi < z k) : Most z (k + 1) hi := by
  obtain ⟨h1, j0, hj0, e0⟩ := h
  refine ⟨fun j hj => ?_, j0, by omega, e0⟩
  by_cases e : j = k
  · subst e; omega
  · exact h1 j (by omega)

theorem first_least {n : Nat} {z : Nat → Int} {d : Nat → Nat} {lo : Int} (hn : 0 < n) (h : ((List.range n).map d).Perm (List.range n)) (s : ∀ i j, i < j → j < n → z (d i) ≤ z (d j)) (hl : Least z n lo) : z (d 0) = lo := by
  obtain ⟨h1, j0, hj0, e0⟩ := hl
  have ha := h1 (d 0) (into h 0 hn)
  obtain ⟨j, hj, e⟩ := onto h j0 hj0
  have hb : z (d 0) ≤ z (d j) := by
    by_cases hz : j = 0
    · subst hz; exact Int.le_refl _
    · exact s 0 j (by omega) hj
  rw [e, e0] at hb
  omega
theorem last_most {n : Nat} {z : Nat → Int} {d : Nat → Nat} {hi : Int} (hn : 0 < n) (h : ((List.range n).map d).Perm (List.range n)) (s : ∀ i j, i < j → j < n → z (d i) ≤ z (d j)) (hl : Most z n hi) : z (d (n - 1)) = hi := by
  obtain ⟨h1, j0, hj0, e0⟩ := hl
  have ha := h1 (d (n - 1)) (into h (n - 1) (by omega))
  obtain ⟨j, hj, e⟩ := onto h j0 hj0
  have hb : z (d j) ≤ z (d (n - 1)) := by
    by_cases hz : j = n - 1
    · subst hz; exact Int.le_refl _
    · exact s j (n - 1) (by omega) (by omega)
  rw [e, e0] at hb
  omega
end Go.Proofs.Qxb6614503a
