/-
  THE WALK of FnSortRulesSortsAtAnyCut.
-/
import Derived.Test.Qxb6614503aSteady
import Derived.Test.Qxb6614503aMerge
import Derived.Deep.RegionWith
namespace Go.Proofs.Qxb6614503a
open Go.RowKit

theorem cut_left (a0 : Option Addr) (n cap0 cut : Nat) (z : Nat → Int) (w : World) (M : Nat) (hn : n ≤ cap0) (hc : cut ≤ n) (hR : Row w a0 n z M) :
    ∃ al, (∀ w', (Instr.slice 22 (.slice a0 n cap0) Option.none (some (.int .i64 (cut : Int))) Option.none).run Try.prog w' = .ok (.slice al cut cap0) w') ∧ Row w al cut z M := by
  refine ⟨if cap0 = 0 then a0 else a0.map (·.add (0 * 1)), fun w' => ?_, ?_⟩
  · have h := run_slice_h (P := Try.prog) w' 22 a0 n cap0 (by kernel_rfl) .i64 (cut : Int) (by omega) (by omega)
    have hs : (sizeOf (Try.prog.elem 22)).run Try.prog w' = .ok 1 w' := by kernel_rfl
    rw [h, hs]
    simp [Result.andThen, sliced]
  · intro j hj
    obtain ⟨b, off, rfl, h1, h2⟩ := hR j (by omega)
    refine ⟨b, off, ?_, h1, h2⟩
    rw [if_neg (by omega)]
    simp [Addr.add]

theorem cut_right (a0 : Option Addr) (n cap0 cut : Nat) (z : Nat → Int) (w : World) (M : Nat) (hn : n ≤ cap0) (hc : cut ≤ n) (hR : Row w a0 n z M) :
    ∃ ar, (∀ w', (Instr.slice 22 (.slice a0 n cap0) (some (.int .i64 (cut : Int))) Option.none Option.none).run Try.prog w' = .ok (.slice ar (n - cut) (cap0 - cut)) w') ∧ Row w ar (n - cut) (fun j => z (cut + j)) M := by
  refine ⟨if cap0 = cut then a0 else a0.map (·.add (cut * 1)), fun w' => ?_, ?_⟩
  · have h := run_slice_l (P := Try.prog) w' 22 a0 n cap0 (by kernel_rfl) .i64 (cut : Int) (by omega) (by omega)
    have hs : (sizeOf (Try.prog.elem 22)).run Try.prog w' = .ok 1 w' := by kernel_rfl
    rw [h, hs]
    simp [Result.andThen, sliced]
  · intro j hj
    obtain ⟨b, off, rfl, h1, h2⟩ := hR (cut + j) (by omega)
    refine ⟨b, off + cut, ?_, h1, ?_⟩
    · rw [if_neg (by omega)]
      simp [Addr.add]
    · rw [Nat.add_assoc]
      exact h2

theorem Pol.drew {w : World} {R n : Nat} {z : Nat → Int} {d : Nat → Nat} (h : Pol w R n z d) : Pol w.drew R n z d := h.kept (Nat.le_refl _) (fun _ _ _ => rfl)

theorem merge_at (Ra Rb na nb N G : Nat) (za zb : Nat → Int) (da db : Nat → Nat) (w : World) (hG : w.heap.size = G) (hN : na + nb = N) (hn : N ≤ 65536) (hA : Pol w Ra na za da) (hB : Pol w Rb nb zb db)
    (sa : ∀ i j, i < j → j < na → za (da i) ≤ za (da j)) (sb : ∀ i j, i < j → j < nb → zb (db i) ≤ zb (db j)) :
    Calls Try.prog 9 #[.slice (some ⟨Ra, 0, Option.none⟩) na na, .slice (some ⟨Rb, 0, Option.none⟩) nb nb] w fun e w' => e = .returned (.slice (some ⟨G, 0, Option.none⟩) N N) ∧
      ∃ xs : List Int, MInv (fun i => za (da i)) (fun j => zb (db j)) na nb na nb xs ∧ (∀ j, j < N → w'.cell? ⟨G, j, Option.none⟩ = some (.int .i64 (xs.getD j 0))) ∧ Below w.heap.size w w' := by
  subst hG hN
  exact merge_any Ra Rb na nb za zb da db w hn hA hB sa sb

theorem undrew {w w' : World} (h : Below w.drew.heap.size w.drew w') : Below w.heap.size w w' := ⟨h.os, h.tape, h.output, h.size, h.block⟩

set_option maxRecDepth 100000 in
set_option maxHeartbeats 4000000 in
theorem cut_small (n cut : Nat) (z : Nat → Int) (a0 : Option Addr) (cap0 : Nat) (w : World) (hn : n ≤ 65536) (hcap : n ≤ cap0) (hcut : cut ≤ n) (hc : Row w a0 n z w.heap.size) :
    Calls Try.prog 3 #[.slice a0 n cap0, .int .i64 (cut : Int)] w fun e w' => e = .returned (.bool true) ∧ Below w.heap.size w w' := by
  obtain ⟨al, hal, hl⟩ := cut_left a0 n cap0 cut z w w.heap.size hcap hcut hc
  obtain ⟨ar, har, hr⟩ := cut_right a0 n cap0 cut z w w.heap.size hcap hcut hc
  have HC := hide hc
  have HL := hide hl
  have HR := hide hr
  clear hc hl hr
  have hcn : decide ((cut : Int) < 0) = false := by simp
  go_enter Try.func3, Try.ntmps3
  go_wp2_with (go_at_call 5; go_in)
  refine (build_at w.heap.size n z a0 cap0 w rfl hn (unhide HC)).mono ?_
  rintro e w1 ⟨rfl, hP1, hB1, hz1⟩
  have HP1 := hide hP1
  have HB1 := hide hB1
  have HZ1 := hide hz1
  clear hP1 hB1 hz1
  go_wp2_with fail
  refine (build_at (w.heap.size + 3 + n) cut z al cap0 w1 (unhide HZ1) (by omega) (((unhide HL).below (unhide HB1) (Nat.le_refl _)).mono (by omega))).mono ?_
  rintro e w2 ⟨rfl, hP2, hB2, hz2⟩
  have HP1' := hide ((unhide HP1).below hB2 (by omega))
  have HP2 := hide hP2
  have HB2 : Hid (Below w.heap.size w w2) := (unhide HB1).trans (hB2.mono (by omega))
  have HZ2 := hide hz2
  clear hP2 hB2 hz2 HP1 HB1 HZ1
  go_wp2_with fail
  refine (build_at (w.heap.size + 3 + n + 3 + cut) (n - cut) (fun j => z (cut + j)) ar (cap0 - cut) w2 (unhide HZ2) (by omega) (((unhide HR).below (unhide HB2) (Nat.le_refl _)).mono (by omega))).mono ?_
  rintro e w3 ⟨rfl, hP3, hB3, hz3⟩
  have HP1'' := hide ((unhide HP1').below hB3 (by omega))
  have HP2' := hide ((unhide HP2).below hB3 (by omega))
  have HP3 := hide hP3
  have HB3 : Hid (Below w.heap.size w w3) := (unhide HB2).trans (hB3.mono (by omega))
  clear hP3 hB3 hz3 HP1' HP2 HB2 HZ2
  have q1 : w.heap.size + 2 + n < w.heap.size + 3 + n := by omega
  have q2 : w.heap.size + 3 + n + 2 + cut < w.heap.size + 3 + n + 3 + cut := by omega
  go_wp2_with fail
  generalize w.heap.size + 3 + n + 3 + cut = R3 at q2 HP3 ⊢
  generalize w.heap.size + 3 + n = R2 at q1 q2 HP2' ⊢
  generalize hm : n - cut = m at HP3 HR har ⊢
  have hmn : cut + m ≤ n := by omega
  have Hmn := hide hm
  clear hm
  refine (zzSort_pol w.heap.size n z id w3 hn (unhide HP1'')).mono ?_
  rintro e w4 ⟨rfl, hg4, dw, hW4, hs1⟩
  have HW4 := hide hW4
  have HLp4 := hide ((unhide HP2').kept hg4.size (fun b h1 h2 => hg4.block b (by have := (unhide HP2').lt; omega) (by simp; omega)))
  have HRp4 := hide ((unhide HP3).kept hg4.size (fun b h1 h2 => hg4.block b (by have := (unhide HP3).lt; omega) (by simp; omega)))
  have HSW := hide hs1
  have HB4 := hide ((unhide HB3).grown hg4 (unhide HB3).size (fun k hk => by cases hk; omega))
  clear hg4 hW4 hs1 HP1'' HP2' HP3 HB3
  go_wp2_with fail
  refine (zzSort_pol R2 cut z id w4 (by omega) (unhide HLp4)).mono ?_
  rintro e w5 ⟨rfl, hg5, dl, hL5, hs2⟩
  have HW5 := hide ((unhide HW4).kept hg5.size (fun b h1 h2 => hg5.block b (by have := (unhide HW4).lt; omega) (by simp; omega)))
  have HLp5 := hide hL5
  have HRp5 := hide ((unhide HRp4).kept hg5.size (fun b h1 h2 => hg5.block b (by have := (unhide HRp4).lt; omega) (by simp; omega)))
  have HSL := hide hs2
  have HB5 := hide ((unhide HB4).grown hg5 (unhide HB4).size (fun k hk => by cases hk; omega))
  clear hg5 hL5 hs2 HW4 HLp4 HRp4 HB4
  go_wp2_with fail
  refine (zzSort_pol R3 m (fun j => z (cut + j)) id w5 (by omega) (unhide HRp5)).mono ?_
  rintro e w6 ⟨rfl, hg6, dr, hR6, hs3⟩
  have HW6 := hide ((unhide HW5).kept hg6.size (fun b h1 h2 => hg6.block b (by have := (unhide HW5).lt; omega) (by simp; omega)))
  have HLp6 := hide ((unhide HLp5).kept hg6.size (fun b h1 h2 => hg6.block b (by have := (unhide HLp5).lt; omega) (by simp; omega)))
  have HRp6 := hide hR6
  have HSR := hide hs3
  have HB6 := hide ((unhide HB5).grown hg6 (unhide HB5).size (fun k hk => by cases hk; omega))
  clear hg6 hR6 hs3 HW5 HLp5 HRp5 HB5
  have hp6 := (unhide HW6).pol
  go_wp2_with fail
  refine (keeps_any w.heap.size n z dw _ cap0 w6 hn (unhide HW6) (unhide HSW) (((unhide HC).below (unhide HB6) (Nat.le_refl _)).mono (unhide HB6).size)).mono ?_
  rintro e w7 ⟨rfl, hB7⟩
  have HW7 := hide ((unhide HW6).below hB7 (unhide HW6).lt)
  have HLp7 := hide ((unhide HLp6).below hB7 (unhide HLp6).lt)
  have HRp7 := hide ((unhide HRp6).below hB7 (unhide HRp6).lt)
  have HB7 := hide ((unhide HB6).trans (hB7.mono (unhide HB6).size))
  clear hB7 hp6 HW6 HLp6 HRp6 HB6
  have hp7 := (unhide HLp7).pol
  have hK7 := keeps_any R2 cut z dl al cap0 w7.drew (by omega) (unhide HLp7).drew (unhide HSL) (((unhide HL).below (unhide HB7) (Nat.le_refl _)).mono (unhide HB7).size)
  have HK7 := hide hK7
  clear hK7
  go_wp2_with fail
  go_region_with (go_at_call 8; refine (unhide HK7).mono ?_; rintro e w8 ⟨rfl, hB8⟩)
  have hB8' := undrew hB8
  have HW8 := hide ((unhide HW7).below hB8' (unhide HW7).lt)
  have HLp8 := hide ((unhide HLp7).below hB8' (unhide HLp7).lt)
  have HRp8 := hide ((unhide HRp7).below hB8' (unhide HRp7).lt)
  have HB8 := hide ((unhide HB7).trans (hB8'.mono (unhide HB7).size))
  clear hB8 hB8' hp7 HK7 HW7 HLp7 HRp7 HB7
  have hp8 := (unhide HRp8).pol
  have hK8 := keeps_any R3 m (fun j => z (cut + j)) dr ar (cap0 - cut) w8.drew (by omega) (unhide HRp8).drew (unhide HSR) (((unhide HR).below (unhide HB8) (Nat.le_refl _)).mono (unhide HB8).size)
  have HK8 := hide hK8
  clear hK8
  go_wp2_with fail
  go_region_with (go_at_call 8; refine (unhide HK8).mono ?_; rintro e w9 ⟨rfl, hB9⟩)
  have hB9' := undrew hB9
  have HW9 := hide ((unhide HW8).below hB9' (unhide HW8).lt)
  have HLp9 := hide ((unhide HLp8).below hB9' (unhide HLp8).lt)
  have HRp9 := hide ((unhide HRp8).below hB9' (unhide HRp8).lt)
  have HB9 := hide ((unhide HB8).trans (hB9'.mono (unhide HB8).size))
  clear hB9 hB9' hp8 HK8 HW8 HLp8 HRp8 HB8
  have hp9 := (unhide HLp9).pol
  have hp9' := (unhide HRp9).pol
  have hM9 := merge_at R2 R3 cut m n w9.heap.size z (fun j => z (cut + j)) dl dr w9.drew rfl (by have := unhide Hmn; omega) hn (unhide HLp9).drew (unhide HRp9).drew (unhide HSL) (unhide HSR)
  have HM9 := hide hM9
  clear hM9
  go_wp2_with fail
  go_region_with (go_at_call 9; refine (unhide HM9).mono ?_; rintro e w10 ⟨rfl, xs, hM, hX, hB10⟩)
  all_goals
    have hB10' := undrew hB10
    have HW10 := hide ((unhide HW9).below hB10' (unhide HW9).lt)
    have HB10 := hide ((unhide HB9).trans (hB10'.mono (unhide HB9).size))
    have HX : Hid (∀ j, j < n → w10.cell? ⟨w9.heap.size, j, Option.none⟩ = some (.int .i64 (z (dw j)))) := fun j hj => by
      have h := hX j hj
      have e := unhide Hmn
      subst e
      rw [merge_whole hcut (unhide HW9).perm (unhide HLp9).perm (unhide HRp9).perm (unhide HSW) hM j hj] at h
      exact h
    clear hB10 hB10' hM hX hp9 hp9' HM9 HLp9 HRp9 HB9 HW9
    have hp10 := (unhide HW10).pol
    go_wp2_with fail
    clear hp10
    go_loopw [12] (fun i wr => ∃ k q : Nat, k ≤ n ∧ i = .int .i64 k ∧ wr = w10.drewN q) (fun i _ => n - (intOf i).toNat)
    case atStart => exact ⟨0, 0, Nat.zero_le _, rfl, rfl⟩
    case round =>
      obtain ⟨k, q, hk, rfl, rfl⟩ := hrel
      by_cases hlt : k < n
      · have hp := (unhide HW10).pol
        have hr := ((unhide HW10).rows k hlt).1
        have hi := (unhide HW10).idx (dw k) ((unhide HW10).inb k hlt)
        have hx := unhide HX k hlt
        unfold pt at hr
        go_wp2
        go_quiet ((fail))
        go_wp2
        go_roundw
        case rel => exact ⟨k + 1, _, by omega, by go_num, rfl⟩
        case measure => simp [intOf]; omega
      · have : n = k := by omega
        subst this
        go_wp2
        go_ret
        exact ⟨rfl, below_draws (unhide HB10) _⟩
end Go.Proofs.Qxb6614503a
