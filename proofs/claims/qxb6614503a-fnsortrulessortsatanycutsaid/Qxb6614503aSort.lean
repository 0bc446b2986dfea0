/-
  THE WALK of sortRules: by the shelf's contract of slices.SortFunc (one element or more), by three small walks at no element.
-/
import Derived.Test.Qxb6614503aBuild
import Derived.Test.Qxb6614503aShelf
import Derived.Deep.QuietTactic
import Derived.BigQuiet
namespace Go.Proofs.Qxb6614503a
open Go.RowKit Go.Shelf Go.Lib Go.Sort

/-- What cmp.Compare answers at ints. -/
def cmpI (x y : Int) : Int := if x < y then -1 else if y < x then 1 else 0

theorem cmp_any (x y : Int) (w : World) : Calls Try.prog 14 #[.int .i64 x, .int .i64 y] w fun e w' => e = .returned (.int .i64 (cmpI x y)) ∧ w' = w := by
  have hr : (x < y ∧ cmpI x y = -1) ∨ (¬ x < y ∧ y < x ∧ cmpI x y = 1) ∨ (¬ x < y ∧ ¬ y < x ∧ cmpI x y = 0) := by
    unfold cmpI
    by_cases h1 : x < y
    · exact .inl ⟨h1, by simp [h1]⟩
    · by_cases h2 : y < x
      · exact .inr (.inl ⟨h1, h2, by simp [h1, h2]⟩)
      · exact .inr (.inr ⟨h1, h2, by simp [h1, h2]⟩)
  generalize cmpI x y = r at hr ⊢
  rcases hr with ⟨h1, rfl⟩ | ⟨h1, h2, rfl⟩ | ⟨h1, h2, rfl⟩
  all_goals
    go_enter Try.func14, Try.ntmps14
    go_wp2
    go_ret
    exact ⟨rfl, rfl⟩

theorem closure_any (p q : Nat) (x y : Int) (w : World) (hp : w.cell? ⟨p, 0, Option.none⟩ = some (.int .i64 x)) (hq : w.cell? ⟨q, 0, Option.none⟩ = some (.int .i64 y)) :
    Calls Try.prog 13 #[.pointer (some ⟨p, 0, Option.none⟩), .pointer (some ⟨q, 0, Option.none⟩)] w fun e w' => e = .returned (.int .i64 (cmpI x y)) ∧ ∃ m, w' = w.drewN m := by
  have h14 := fun W => cmp_any x y W
  have H14 := hide h14
  clear h14
  generalize cmpI x y = r at H14 ⊢
  go_enter Try.func13, Try.ntmps13
  go_wp2
  go_quiet ((go_at_call 14; exact Calls.quiet_of_same (unhide H14 _)))
  go_wp2
  go_ret
  exact ⟨rfl, nq, rfl⟩

set_option maxHeartbeats 1000000 in
theorem insertion_none (p : Option Addr) (cap : Nat) (fv : Value) (w : World) :
    Calls Try.prog 18 #[.slice p 0 cap, .int .i64 0, .int .i64 0, fv] w fun e w' => e = .returned (.tuple #[]) ∧ w' = w := by
  go_enter Try.func18, Try.ntmps18
  go_wp2
  refine wp_loop_rounds 1 ?_
  rw [rounds_succ]
  go_wp2
  go_end0
  exact ⟨rfl, rfl⟩

set_option maxHeartbeats 1000000 in
theorem pdq_none (p : Option Addr) (cap : Nat) (lim : Int) (fv : Value) (w : World) :
    Calls Try.prog 15 #[.slice p 0 cap, .int .i64 0, .int .i64 0, .int .i64 lim, fv] w fun e w' => e = .returned (.tuple #[]) ∧ w' = w := by
  go_enter Try.func15, Try.ntmps15
  go_wp2
  refine wp_loop_rounds 1 ?_
  rw [rounds_succ]
  go_wp2_with (go_at_call 18; refine (insertion_none _ _ _ _).mono ?_; rintro e w' ⟨rfl, rfl⟩)
  (try simp only [Exit.inBlock, Exit.then])
  refine bodyPost_ret (results_none rfl _ _ _) rfl ?_
  exact ⟨rfl, rfl⟩

set_option maxHeartbeats 1000000 in
theorem sortFunc_none (p : Option Addr) (cap : Nat) (fv : Value) (w : World) :
    Calls Try.prog 12 #[.slice p 0 cap, fv] w fun e w' => e = .returned (.tuple #[]) ∧ w' = w := by
  have hl : ∀ W, Calls Try.prog 16 #[.int .u64 0] W fun e w' => e = .returned (.int .i64 (Lib.bitLen 0 : Nat)) ∧ w' = W := fun W =>
    Any.bits_Len (SlLaysF0.n15.bits (P := Try.prog) (ρ := Try.sortL_ren) { Try.sortL with }) 0 W (by omega) (by omega)
  go_enter Try.func12, Try.ntmps12
  go_wp2_with (first | (go_at_call 16; refine (hl _).mono ?_; rintro e w' ⟨rfl, rfl⟩) | (go_at_call 15; refine (pdq_none _ _ _ _ _).mono ?_; rintro e w' ⟨rfl, rfl⟩))
  go_end0
  exact ⟨rfl, rfl⟩

theorem sortWorld_grown {α : Type} [Inhabited α] (enc : α → Value) (w : World) (blk off m : Nat) (dk : Array α) (os : Array Obj) : w.grownBy (sortWorld enc w blk off m dk os) (some blk) := by
  refine ⟨rfl, rfl, rfl, ?_, ?_⟩
  · unfold sortWorld
    rw [size_grow]
    have : (putRow enc (Sort.ahead w m) blk off dk).heap.size = w.heap.size := by simp [putRow, mapBlock]
    omega
  · intro k hk hne
    unfold sortWorld
    have hs : (putRow enc (Sort.ahead w m) blk off dk).heap.size = w.heap.size := by simp [putRow, mapBlock]
    rw [heap_grow_old _ _ (by omega)]
    unfold putRow mapBlock
    simp only [Array.getElem?_modify, heap_ahead]
    rw [if_neg (by intro e; exact hne (by rw [e]))]

/-- A tag, or 0 where there is no such tag. -/
def cl (n t : Nat) : Nat := if t < n then t else 0
theorem cl_lt {n t : Nat} (h : t < n) : cl n t = t := by unfold cl; rw [if_pos h]
theorem cl_in {n : Nat} (hn : 0 < n) (t : Nat) : cl n t < n := by unfold cl; split <;> omega

def encN (R n t : Nat) : Value := pt (R + 2) (cl n t)
def cfN (n : Nat) (z : Nat → Int) (x y : Nat) : Int := cmpI (z (cl n x)) (z (cl n y))

theorem ltN (n : Nat) (z : Nat → Int) (x y : Nat) : ltOf (cfN n z) x y = decide (z (cl n x) < z (cl n y)) := by
  unfold ltOf cfN cmpI
  by_cases h1 : z (cl n x) < z (cl n y)
  · simp [h1]
  · by_cases h2 : z (cl n y) < z (cl n x) <;> simp [h1, h2]

theorem swoN (n : Nat) (z : Nat → Int) : SWO (ltOf (cfN n z)) := by
  refine ⟨fun x => ?_, fun x y v h1 h2 => ?_, fun x y v h1 h2 => ?_⟩
  · rw [ltN]; simp
  · rw [ltN] at *; simp at *; omega
  · rw [ltN] at *; simp at *; omega

theorem cmpReadsN {w : World} {R n : Nat} {z : Nat → Int} {d : Nat → Nat} (hP : Pol w R n z d) (hn : 0 < n) (size : Nat) : CmpReads Try.prog 13 #[] (encN R n) (cfN n z) R 0 size w := by
  intro m os dk _ x y
  have hg := sortWorld_grown (encN R n) w R 0 m dk os
  have hlt := hP.lt
  have hx := cl_in hn x
  have hy := cl_in hn y
  refine closure_any (R + 2 + cl n x) (R + 2 + cl n y) _ _ _ ?_ ?_
  · exact (World.cell?_of_block (hg.block _ (by show R + 2 + cl n x < _; omega) (by simp; omega))).trans (hP.idx _ hx)
  · exact (World.cell?_of_block (hg.block _ (by show R + 2 + cl n y < _; omega) (by simp; omega))).trans (hP.idx _ hy)

/-- The row's tags as an array. -/
def rowA (n : Nat) (d : Nat → Nat) : Array Nat := ((List.range n).map d).toArray
theorem rowA_size (n : Nat) (d : Nat → Nat) : (rowA n d).size = n := by simp [rowA]
theorem rowA_get (n : Nat) (d : Nat → Nat) (j : Nat) (hj : j < n) : (rowA n d)[j]! = d j := by simp [rowA, hj]

theorem holdsN {w : World} {R n : Nat} {z : Nat → Int} {d : Nat → Nat} (hP : Pol w R n z d) : Holds (encN R n) w R 0 (rowA n d) := by
  intro j hj
  rw [rowA_size] at hj
  have h := hP.rows j hj
  rw [rowA_get n d j hj, Nat.zero_add]
  unfold encN
  rw [cl_lt (hP.inb j hj)]
  exact h

theorem perm_facts {n : Nat} {d : Nat → Nat} {d' : Array Nat} (hd : ((List.range n).map d).Perm (List.range n)) (hp : PermIn 0 n (rowA n d) d') :
    d'.size = n ∧ ((List.range n).map fun j => d'[j]!).Perm (List.range n) := by
  obtain ⟨hs, _, hperm⟩ := hp
  rw [rowA_size] at hs
  have e1 : (d'.extract 0 n).toList = d'.toList := by
    simp [← hs]
  have e2 : ((rowA n d).extract 0 n).toList = (List.range n).map d := by
    have : (rowA n d).extract 0 n = rowA n d := by
      have h := Array.extract_size (xs := rowA n d)
      rw [rowA_size] at h
      exact h
    rw [this]
    simp [rowA]
  rw [e1, e2] at hperm
  have e3 : ((List.range n).map fun j => d'[j]!) = d'.toList := by
    refine List.ext_getElem (by simp [hs]) (fun i h1 h2 => ?_)
    have h3 : i < d'.size := by simpa using h2
    simp [h3]
  rw [e3]
  exact ⟨hs, hperm.trans hd⟩

set_option maxHeartbeats 1000000 in
/-- slices.SortFunc on a policy's row. -/
theorem sortFunc_pol (R n : Nat) (z : Nat → Int) (d : Nat → Nat) (w : World) (hn : n ≤ 65536) (hP : Pol w R n z d) :
    Calls Try.prog 12 #[.slice (some ⟨R, 0, Option.none⟩) n n, .func (.func 13) #[] #[]] w fun e w' => e = .returned (.tuple #[]) ∧
      w.grownBy w' (some R) ∧ ∃ d', Pol w' R n z d' ∧ ∀ i j, i < j → j < n → z (d' i) ≤ z (d' j) := by
  by_cases h0 : n = 0
  · subst h0
    refine (sortFunc_none _ _ _ _).mono ?_
    rintro e w' ⟨he, rfl⟩
    exact ⟨he, ⟨rfl, rfl, rfl, Nat.le_refl _, fun _ _ _ => rfl⟩, d, hP, fun i j _ h => absurd h (by omega)⟩
  · have eg : ∀ args w, (callFunc 13 args).run Try.prog w = .ok (.enter 13 args) w := enters_of Try.func13 (by kernel_rfl) rfl
    have hlt := hP.lt
    have hS := Any.slices_SortFunc Try.sortL (encN R n) (fun _ => rfl) (cfN n z) (swoN n z) 13 #[] R 0 n (rowA n d) w eg (cmpReadsN hP (by omega) _).lays (holdsN hP) (by omega) (by rw [rowA_size]; omega)
    rw [rowA_size] at hS
    refine Calls.mono hS ?_
    rintro e w' ⟨he, d', m, os, hperm, hsort, rfl⟩
    obtain ⟨hs, hperm'⟩ := perm_facts hP.perm hperm
    have hinb := perm_in hperm'
    have hg := sortWorld_grown (encN R n) w R 0 m d' os
    have hH : Holds (encN R n) (sortWorld (encN R n) w R 0 m d' os) R 0 d' := by
      unfold sortWorld
      refine holds_grow _ _ _ _ _ _ (by simp [putRow, mapBlock]; omega) ?_
      exact holds_putRow _ _ _ _ (rowA n d) _ (holds_ahead _ _ _ _ _ _ (holdsN hP)) (by rw [rowA_size]; exact hs)
    have hkept : ∀ b o, R + 1 ≤ b → b ≤ R + 2 + n → (sortWorld (encN R n) w R 0 m d' os).cell? ⟨b, o, Option.none⟩ = w.cell? ⟨b, o, Option.none⟩ := fun b o h1 h2 =>
      World.cell?_of_block (a := ⟨b, o, Option.none⟩) (hg.block b (by omega) (by simp; omega))
    refine ⟨he, hg, fun j => d'[j]!, ⟨(hkept _ _ (by omega) (by omega)).trans hP.pol, fun j hj => ?_, fun j hj => (hkept _ _ (by omega) (by omega)).trans (hP.orig j hj), fun t ht => (hkept _ _ (by omega) (by omega)).trans (hP.idx t ht), fun t ht => (hkept _ _ (by omega) (by omega)).trans (hP.tag t ht), ?_, hperm'⟩, fun i j hij hj => ?_⟩
    · have h := hH j (by omega)
      rw [Nat.zero_add] at h
      unfold encN at h
      rw [cl_lt (hinb j hj)] at h
      exact h
    · have := hg.size
      omega
    · have h := hsort i j (Nat.zero_le _) hij hj
      rw [ltN, cl_lt (hinb j hj), cl_lt (hinb i (by omega))] at h
      simp at h
      exact h

theorem sortRules_pol (R n : Nat) (z : Nat → Int) (d : Nat → Nat) (w : World) (hn : n ≤ 65536) (hP : Pol w R n z d) :
    Calls Try.prog 11 #[.pointer (some ⟨R + 2 + n, 0, Option.none⟩)] w fun e w' => e = .returned (.tuple #[]) ∧
      w.grownBy w' (some R) ∧ ∃ d', Pol w' R n z d' ∧ ∀ i j, i < j → j < n → z (d' i) ≤ z (d' j) := by
  have h := sortFunc_pol R n z d w hn hP
  have hp := hP.pol
  have H := hide h
  clear h hP
  go_enter Try.func11, Try.ntmps11
  go_wp2_with (go_at_call 12; refine (unhide H).mono ?_; rintro e w' ⟨rfl, hr⟩)
  go_end0
  exact ⟨rfl, hr⟩

theorem zzSort_pol (R n : Nat) (z : Nat → Int) (d : Nat → Nat) (w : World) (hn : n ≤ 65536) (hP : Pol w R n z d) :
    Calls Try.prog 7 #[.pointer (some ⟨R + 2 + n, 0, Option.none⟩)] w fun e w' => e = .returned (.tuple #[]) ∧
      w.grownBy w' (some R) ∧ ∃ d', Pol w' R n z d' ∧ ∀ i j, i < j → j < n → z (d' i) ≤ z (d' j) := by
  have h := sortRules_pol R n z d w hn hP
  have H := hide h
  clear h hP
  go_enter Try.func7, Try.ntmps7
  go_wp2_with (go_at_call 11; refine (unhide H).mono ?_; rintro e w' ⟨rfl, hr⟩)
  go_end0
  exact ⟨rfl, hr⟩
end Go.Proofs.Qxb6614503a
