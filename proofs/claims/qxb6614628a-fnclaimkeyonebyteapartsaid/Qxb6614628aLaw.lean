/-
  THE WALK of FnClaimKeyOneByteApart.
-/
import Derived.Test.Qxb6614628aWalks
import Derived.Deep.RegionWith
import Derived.Laws.BytesArg
namespace Go.Proofs.Qxb6614628a
open Go.RowKit

theorem Bytes.set {w : World} {b i c : Nat} {l : List Nat} (h : Bytes w b l) (hi : i < l.length) : Bytes (w.setCell ⟨b, i, Option.none⟩ (.int .u8 (c : Int))) b (l.set i c) := by
  intro j hj
  rw [List.length_set] at hj
  have hc := (h j hj).1
  have hf := (h j hj).2
  refine ⟨?_, (World.frozen?_setCell _ _ _ _).trans hf⟩
  by_cases e : i = j
  · subst e
    rw [World.cell?_setCell_same _ _ _ hc, List.getD, List.getElem?_set_self hi]
    rfl
  · rw [World.cell?_setCell_other _ _ _ _ (by intro e'; injection e' with e1 e2; omega), hc, List.getD, List.getD, List.getElem?_set_ne e]

theorem nums_of (l : List Nat) (hl : ∀ c ∈ l, c < 256) : nums (strOfNums (l.map fun c : Nat => (c : Int))) = l := by
  unfold nums
  rw [strOfNums_data, List.map_map, List.map_map]
  refine List.ext_getElem (by simp) (fun i h1 h2 => ?_)
  have := hl l[i] (List.getElem_mem h2)
  simp
  omega

/-- 'string(bs)'. -/
theorem wpList_back (w : World) {ops : Array Oper} {rest : List Oper} {o : Oper} {a : Act} {Q : Exit → Act → World → Prop} (hg : o.guard = Option.none) (x : Operand) (hop : o.op = Op.convert 30 9 x) (b n cap : Nat) (l : List Nat) (hx : a.eval x = .slice (some ⟨b, 0, Option.none⟩) n cap)
    (hn : l.length = n) (hB : Bytes w b l) (hl : ∀ c ∈ l, c < 256)
    (hK : ∀ t : ByteArray, nums t = l → wpList Try.prog ops Q rest (a.put o.dst (.string t)) w) :
    wpList Try.prog ops Q (o :: rest) a w := by
  subst hn
  refine wpList_plain hg fun K' hK' => ?_
  have hrun := run_convert_bytes_arg (P := Try.prog) w 30 5 Try.underlying30 Try.underlying5 b 0 l.length cap (l.map fun c : Nat => (c : Int)) (by simp) (fun i hi => by
    rw [Nat.zero_add, (hB i hi).1, List.getD, List.getD, List.getElem?_map, List.getElem?_eq_getElem hi]
    rfl) 9 Try.underlying9
  unfold Oper.wp
  simp only [execOp, hop, hx, Sem.run_bind, hrun, Result.andThen, Sem.run_pure]
  exact hK' _ _ (hK _ (nums_of l hl))

theorem set_lt {l : List Nat} {k c : Nat} (h : ∀ x ∈ l, x < 256) (hc : c < 256) : ∀ x ∈ l.set k c, x < 256 := by
  intro x hx
  rcases List.mem_or_eq_of_mem_set hx with h1 | h1
  · exact h x h1
  · rw [h1]; exact hc

theorem undrew {w w' : World} (h : Below w.drew.heap.size w.drew w') : Below w.heap.size w w' := ⟨h.os, h.tape, h.output, h.size, h.block⟩

theorem wrap_inj {a b : Nat} (ha : a < 18446744073709551616) (hb : b < 18446744073709551616) (h : wrap64 (a : Int) = wrap64 (b : Int)) : a = b := by
  unfold wrap64 at h
  omega

theorem seed_lt : seed64 < 18446744073709551616 := by decide

theorem key_inj (l1 l2 : List Nat) : key l1 = key l2 ↔ fnv seed64 l1 = fnv seed64 l2 := by
  constructor
  · intro h
    exact wrap_inj (fnv_lt l1 seed64 seed_lt) (fnv_lt l2 seed64 seed_lt) h
  · intro h
    unfold key
    rw [h]

theorem split_at (l : List Nat) (k : Nat) (h : k < l.length) : l = l.take k ++ l[k] :: l.drop (k + 1) := by
  rw [List.getElem_cons_drop, List.take_append_drop]

theorem set_at (l : List Nat) (k c : Nat) (h : k < l.length) : l.set k c = l.take k ++ c :: l.drop (k + 1) := by
  rw [List.set_eq_take_append_cons_drop, if_pos h]

theorem keys_one (l : List Nat) (hl : ∀ x ∈ l, x < 256) (k c : Nat) (h : k < l.length) (hc : c < 256) : key (pre ++ l) = key (pre ++ l.set k c) ↔ c = l[k] := by
  rw [key_inj]
  have e2 := set_at l k c h
  have e1 := split_at l k h
  have h1 := one_byte seed64 seed_lt (pre ++ l.take k) (l.drop (k + 1)) (fun x hx => hl x (List.mem_of_mem_drop hx)) l[k] c (hl _ (List.getElem_mem h)) hc
  rw [List.append_assoc, List.append_assoc, ← e1, ← e2] at h1
  rw [h1]
  exact eq_comm

theorem fin_fact (s t : ByteArray) (k c : Nat) (hk : k < s.size) (hc : c < 256) (ht : nums t = (nums s).set k c) : ((key (pre ++ nums s) == key (pre ++ nums t)) == ((c : Int) == ((s[k]'hk).toNat : Int))) = true := by
  rw [ht]
  have hkl : k < (nums s).length := by rw [nums_length]; exact hk
  have h := keys_one (nums s) (nums_lt s) k c hkl hc
  have e : (nums s)[k] = (s[k]'hk).toNat := by
    simp only [nums, List.getElem_map, Array.getElem_toList]
    rfl
  rw [e] at h
  generalize key (pre ++ nums s) = k1 at h
  generalize key (pre ++ (nums s).set k c) = k2 at h
  by_cases hcc : c = (s[k]'hk).toNat
  · have h1 := h.2 hcc
    rw [beq_iff_eq.2 h1, ← hcc]
    simp
  · have h1 : ¬ k1 = k2 := fun e' => hcc (h.1 e')
    rw [beq_eq_false_iff_ne.2 h1]
    have h2 : ((c : Int) == ((s[k]'hk).toNat : Int)) = false := by simp; omega
    rw [h2]
    rfl

set_option maxRecDepth 100000 in
set_option maxHeartbeats 1000000 in
theorem law_in (s : ByteArray) (k c : Nat) (w : World) (hs : s.size ≤ 1048576) (hk : k < s.size) (hc : c < 256) :
    Calls Try.prog 4 #[.string s, .int .i64 (k : Int), .int .u8 (c : Int)] w fun e w' => e = .returned (.bool true) ∧ Below w.heap.size w w' := by
  have h1 : decide ((k : Int) < 0) = false := by simp
  have h2 : decide ((s.size : Int) ≤ (k : Int)) = false := by simp; omega
  go_enter Try.func4, Try.ntmps4
  go_wp2_with (first | (go_at_call 8; go_in) | (refine wpList_bytes _ rfl _ rfl s rfl ?_; intro cap w1 hby hbe hsz; have hby2 := hby.set (c := c) (i := k) (by rw [nums_length]; exact hk); have hck := (hby k (by rw [nums_length]; exact hk)).1; have hcf := (hby k (by rw [nums_length]; exact hk)).2; clear hby) | (refine wpList_back _ rfl _ rfl w.heap.size s.size _ ((nums s).set k c) rfl (by rw [List.length_set, nums_length]) hby2 (set_lt (nums_lt s) hc) ?_; intro t ht))
  have HT := hide ht
  have hts : t.size ≤ 1048576 := by
    rw [← nums_length t, unhide HT, List.length_set, nums_length]
    exact hs
  have HB1 : Hid (Below w.heap.size w (w1.setCell ⟨w.heap.size, k, Option.none⟩ (.int .u8 (c : Int)))) := hbe.setCell (Nat.le_refl _) _
  clear ht hby2 hck hcf hbe hsz
  generalize (w1.setCell ⟨w.heap.size, k, Option.none⟩ (.int .u8 (c : Int))) = w2 at HB1 ⊢
  have HF := hide (fin_fact s t k c hk hc (unhide HT))
  have q1 := fun W => zzClaim_any s W hs
  have q2 := fun W => zzClaim_any t W hts
  have Q1 := hide q1
  have Q2 := hide q2
  clear q1 q2
  generalize key (pre ++ nums s) = k1 at Q1 HF
  generalize key (pre ++ nums t) = k2 at Q2 HF
  go_region_with (first | (go_at_call_of 9 (Value.string s); refine (unhide Q1 _).mono ?_; rintro e w3 ⟨rfl, hb3⟩) | (go_at_call_of 9 (Value.string t); refine (unhide Q2 _).mono ?_; rintro e w4 ⟨rfl, hb4⟩))
  all_goals go_wp2
  all_goals
    go_ret
    refine ⟨congrArg (fun b => Ending.returned (Value.bool b)) (unhide HF), ?_⟩
    exact ((unhide HB1).trans ((undrew hb3).mono (unhide HB1).size)).trans (hb4.mono (Nat.le_trans (unhide HB1).size (undrew hb3).size))
end Go.Proofs.Qxb6614628a
