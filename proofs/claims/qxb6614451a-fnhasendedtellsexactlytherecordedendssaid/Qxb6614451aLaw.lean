/-
  THE WALK OF FnHasEndedTellsExactlyTheRecordedEnds.
-/
import Derived.Test.Qxb6614451aWalks
namespace Go.Proofs.Qxb6614451a
open Go.RowKit Go.Maps Go.WideMaps

theorem hide {p : Prop} (h : p) : Hid p := h
theorem unhide {p : Prop} (h : Hid p) : p := h

theorem take_snoc (zs : List Int) (k : Nat) (h : k < zs.length) : zs.take (k + 1) = zs.take k ++ [zs.getD k 0] := by
  rw [List.take_succ_eq_append_getElem h]
  simp [List.getD, List.getElem?_eq_getElem h]

set_option maxRecDepth 100000 in
theorem walk_big (a0 : Option Addr) (len0 cap0 : Nat) (a1 : Int) (w : World) (hm : len0 ≤ 9223372036854775807) (hbig : 65536 < len0) :
    Calls Try.prog 6 #[.slice a0 len0 cap0, .int .i32 a1] w fun e w' => e = .returned (.bool true) ∧ Below w.heap.size w w' := by
  by_cases h2 : 1048576 < len0
  · go_enter Try.func6, Try.ntmps6
    go_wp2
    go_ret
    exact ⟨rfl, Below.refl _ _⟩
  · go_enter Try.func6, Try.ntmps6
    go_wp2
    go_ret
    exact ⟨rfl, Below.refl _ _⟩

set_option maxRecDepth 100000 in
set_option maxHeartbeats 2000000 in
theorem walk_small (a0 : Option Addr) (len0 cap0 : Nat) (z0 : List Int) (a1 : Int) (w : World) (hbig : len0 ≤ 65536) (hz : len0 ≤ z0.length)
    (hc : ∀ j, j < len0 → ∃ b off, a0 = some ⟨b, off, Option.none⟩ ∧ b < w.heap.size ∧ w.cell? ⟨b, off + j, Option.none⟩ = some (.int .i32 (z0.getD j 0))) (hwz : ∀ j, (Lit.int .i32 (z0.getD j 0)).wf = true) (w1 : (Lit.int .i32 a1).wf = true) :
    Calls Try.prog 6 #[.slice a0 len0 cap0, .int .i32 a1] w fun e w' => e = .returned (.bool true) ∧ Below w.heap.size w w' := by
  have hmm := @run_makeMap Try.prog
  have HC := hide hc
  have HW := hide hwz
  clear hc hwz
  go_enter Try.func6, Try.ntmps6
  go_wp2_with (go_at_call 24; go_in)
  refine (new_any _ _).mono ?_
  rintro e wa ⟨rfl, hs1, hc1, hb1⟩
  have hs1' : wa.heap.size = w.heap.size + 2 := by simpa using hs1
  have hc1' : wa.cell? ⟨w.heap.size + 1, 22, Option.none⟩ = some (.map (some w.heap.size)) := by simpa using hc1
  have hT := (Tells.made w).below hb1 (by simp)
  have hbw : Below w.heap.size w wa := ((Below.refl _ _).alloc (Nat.le_refl _) _).trans (hb1.mono (by simp))
  have HT := hide hT
  have HB := hide hbw
  clear hs1 hc1 hb1 hT hbw
  go_wp2_with fail
  refine (zz_any _ w.heap.size 0 [] a1 false _ w1 (by exact hc1') (unhide HT) rfl).mono ?_
  rintro e w' ⟨rfl, rfl⟩
  go_wp2_with fail
  go_loopw [7, 8] (fun s i wr => ∃ k : Nat, k ≤ len0 ∧ i = .int .i64 k ∧ s = .bool ((z0.take k).contains a1) ∧ Hid (Tells wr w.heap.size k (z0.take k)) ∧ wr.cell? ⟨w.heap.size + 1, 22, Option.none⟩ = some (.map (some w.heap.size)) ∧ Hid (Below w.heap.size w wr) ∧ w.heap.size + 2 ≤ wr.heap.size)
    (fun _ i _ => len0 - (intOf i).toNat)
  case atStart => exact ⟨0, Nat.zero_le _, rfl, rfl, HT, hc1', HB, by omega⟩
  case round =>
    clear hs1' hc1' HT HB
    obtain ⟨k, hk, rfl, rfl, HT, hc1, HB, hsz⟩ := hrel
    by_cases hlt : k < len0
    · obtain ⟨b, off, rfl, hb, hcell⟩ := unhide HC k hlt
      have hq := unhide HW k
      have hcx : wr.cell? ⟨b, off + k, Option.none⟩ = some (.int .i32 (z0.getD k 0)) := ((unhide HB).cell (by exact hb)).trans hcell
      have HTS := hide (take_snoc z0 k (by omega))
      obtain ⟨D, hown, hD, hat⟩ := unhide HT
      have HA := hide (put_tells hD hat (z0.getD k 0))
      clear hcell HT hat
      generalize hqq : z0.getD k 0 = q at hq hcx HTS HA
      clear hqq
      by_cases hqp : q = a1
      · subst hqp
        go_wp2_with (at_mapUpdate; refine wpList_mapUpdate_own _ rfl _ _ _ 54 rfl 21 4 law21 Try.underlying54 (plainElem (H := Unit) Try.prog 4) w.heap.size k _ rfl hown (by unfold maxLen; omega) _ _ _ rfl rfl (keyOf_int_mk Try.underlying21 hq) _ [] (plainElem_bool Try.underlying4 true) ?_; intro wb hown1 hgrow1)
        have hT1 : Tells wb w.heap.size (k + 1) (z0.take (k + 1)) := ⟨_, hown1, hown1.isMap, by rw [unhide HTS]; exact unhide HA⟩
        have hcb : wb.cell? ⟨w.heap.size + 1, 22, Option.none⟩ = some (.map (some w.heap.size)) := (World.cell?_of_block (hgrow1.block _ (by show w.heap.size + 1 < _; omega) (by simp))).trans hc1
        have hin : (z0.take (k + 1)).contains q = true := by rw [unhide HTS]; simp
        have HT1 := hide hT1
        have Hin := hide hin
        have HBb := hide ((unhide HB).grown hgrow1 (by omega) (fun j hj => by cases hj; exact Nat.le_refl _))
        have hszb : w.heap.size + 2 ≤ wb.heap.size := by have := hgrow1.size; omega
        clear hT1 hin hown hown1 hgrow1 HB HA HTS hcx hc1 hsz
        refine (zz_any _ w.heap.size (k + 1) _ q true _ w1 (by exact hcb) (unhide HT1) (unhide Hin)).mono ?_
        rintro e w' ⟨rfl, rfl⟩
        go_wp2_with fail
        refine (zz_any _ w.heap.size (k + 1) _ q true _ w1 (by exact hcb) (unhide HT1) (unhide Hin)).mono ?_
        rintro e w' ⟨rfl, rfl⟩
        go_wp2_with fail
        go_roundw
        case rel => exact ⟨k + 1, by omega, by go_num, by rw [unhide Hin], HT1, hcb, HBb, hszb⟩
        case measure => simp [intOf]; omega
      · have htest : (q == a1) = false := by simp [hqp]
        go_wp2_with (at_mapUpdate; refine wpList_mapUpdate_own _ rfl _ _ _ 54 rfl 21 4 law21 Try.underlying54 (plainElem (H := Unit) Try.prog 4) w.heap.size k _ rfl hown (by unfold maxLen; omega) _ _ _ rfl rfl (keyOf_int_mk Try.underlying21 hq) _ [] (plainElem_bool Try.underlying4 true) ?_; intro wb hown1 hgrow1)
        have hT1 : Tells wb w.heap.size (k + 1) (z0.take (k + 1)) := ⟨_, hown1, hown1.isMap, by rw [unhide HTS]; exact unhide HA⟩
        have hcb : wb.cell? ⟨w.heap.size + 1, 22, Option.none⟩ = some (.map (some w.heap.size)) := (World.cell?_of_block (hgrow1.block _ (by show w.heap.size + 1 < _; omega) (by simp))).trans hc1
        have hin : (z0.take (k + 1)).contains q = true := by rw [unhide HTS]; simp
        have hnot : (z0.take (k + 1)).contains a1 = (z0.take k).contains a1 := by rw [unhide HTS]; simp [Ne.symm hqp]
        have HT1 := hide hT1
        have Hin := hide hin
        have Hnot := hide hnot
        have HBb := hide ((unhide HB).grown hgrow1 (by omega) (fun j hj => by cases hj; exact Nat.le_refl _))
        have hszb : w.heap.size + 2 ≤ wb.heap.size := by have := hgrow1.size; omega
        clear hT1 hin hnot hown hown1 hgrow1 HB HA HTS hcx hc1 hsz
        refine (zz_any _ w.heap.size (k + 1) _ q true _ hq (by exact hcb) (unhide HT1) (unhide Hin)).mono ?_
        rintro e w' ⟨rfl, rfl⟩
        go_wp2_with fail
        refine (zz_any _ w.heap.size (k + 1) _ a1 _ _ w1 (by exact hcb) (unhide HT1) (unhide Hnot)).mono ?_
        rintro e w' ⟨rfl, rfl⟩
        go_wp2_with fail
        go_roundw
        case rel => exact ⟨k + 1, by omega, by go_num, by rw [unhide Hnot]; simp, HT1, hcb, HBb, hszb⟩
        case measure => simp [intOf]; omega
    · have hke : k = len0 := by omega
      subst hke
      go_wp2_with fail
      go_ret
      exact ⟨rfl, unhide HB⟩
end Go.Proofs.Qxb6614451a
