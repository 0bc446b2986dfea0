/-
  THE PROOF OF 'Rows.FnHasReadsOneBitOfItsOwnCardSaid'. The row's step after the guide's Derived/Test/MapyProofs.lean, the card after MapyCard.lean, at this program.
-/
import Derived.Test.Qxb6614503aDoorLaid
import Derived.Test.Qxb6614503aDoorTie
import Derived.Test.Qxb6614503aDoorCards
import Derived.SevenTiedAt
namespace Go.Proofs.Qxb6614503aDoor
open Go.ChangeShapes Go.WideShapes Go.ChangeAt Go.RowKit

theorem own : ownKnob Tryd.prog.godebug = Option.none := by kernel_rfl
theorem laidOut : laidOutB Tryd.prog = true := by kernel_rfl

theorem walk_big (a0 a1 a2 : Int) (h : 5 < a2) (w : World) : Calls Tryd.prog 3 #[.int .u16 a0, .int .u16 a1, .int .u8 a2] w fun e w' => e = .returned (.bool true) ∧ ∃ q, w' = w.drewN q := by
  go_enter Tryd.func3, Tryd.ntmps3
  go_wp2_with fail
  go_ret
  exact ⟨rfl, 0, rfl⟩

theorem walk (a0 a1 a2 : Int) (w0 : (Lit.int .u16 a0).wf = true) (w1 : (Lit.int .u16 a1).wf = true) (w2 : (Lit.int .u8 a2).wf = true) (w : World) {b off c : Nat} (hT : Tabs w b off c) :
    Calls Tryd.prog 3 #[.int .u16 a0, .int .u16 a1, .int .u8 a2] w fun e w' => e = .returned (.bool true) ∧ ∃ q, w' = w.drewN q := by
  have b0 := bounds_u16 w0
  have b1 := bounds_u16 w1
  have b2 := bounds_u8 w2
  by_cases h : 5 < a2
  · exact walk_big a0 a1 a2 h w
  · have e0 : a0 = ((a0.toNat : Nat) : Int) := by omega
    have e1 : a1 = ((a1.toNat : Nat) : Int) := by omega
    have e2 : a2 = ((a2.toNat : Nat) : Int) := by omega
    rw [e0, e1, e2]
    exact law_at a0.toNat a1.toNat a2.toNat b off c (by omega) (by omega) (by omega) w hT

theorem door_met (os : Os) (args : Array Value) : laidMetH Tryd.prog Rows.fnHasReadsOneBitOfItsOwnRow.laid ((World.doorLaid Tryd.prog 400 os).forCall (fun _ _ => 0) ⟨#[], args, []⟩).memory :=
  laidMetH_of_parts3 (fuel := 8) (laidMet_of_run' 8 (by kernel_rfl) (by kernel_rfl)) (by kernel_rfl) (by kernel_rfl)

theorem below_drewN (B : Nat) (w : World) (q : Nat) : Below B w (w.drewN q) := ⟨rfl, rfl, rfl, Nat.le_refl _, fun _ _ => rfl⟩

set_option maxRecDepth 100000 in
theorem lifted (os : Os) (started : os.Started) (H : Type) (enc : TypeId × Value → H) :
    ReturnsInHanded {} Tryd.checked os 3 .any (fun w args => (Rows.fnHasReadsOneBitOfItsOwnSpec.pre enc Tryd.prog Tryd.f3 [] false w args ∧ laidMetH Tryd.prog Rows.fnHasReadsOneBitOfItsOwnRow.laid w) ∧ sizedMet enc Tryd.prog Tryd.f3 (OpenSpec.ofChange Rows.fnHasReadsOneBitOfItsOwnSpec) false w args)
      (Rows.fnHasReadsOneBitOfItsOwnSpec.post enc Tryd.prog Tryd.f3 false true false false) := by
  refine returnsInHanded_of_change_and (C := Tryd.checked) (X := fun w _ => laidMetH Tryd.prog Rows.fnHasReadsOneBitOfItsOwnRow.laid w) (fun _ _ _ hh h => h.of_heap hh) own started (by kernel_rfl) Tryd.func3
    (ChangeSpec.witness_shaped (enc := enc) (C := Tryd.checked) (os := os) (X := fun w _ => laidMetH Tryd.prog Rows.fnHasReadsOneBitOfItsOwnRow.laid w) false (World.doorLaid Tryd.prog 400 os) #[.int .u16 0, .int .u16 0, .int .u8 0] 8 rfl (World.shaped_of_RefB (by kernel_rfl) (by kernel_rfl)) (by kernel_rfl) (by kernel_rfl) (by kernel_rfl) (door_met os _)) ?_
  intro W base args ds gs before hval0 hW _ _ hL _
  have hval : ∀ (j : Nat) t v, Tryd.f3.params[j]? = some t → args[j]? = some v → Value.okWide Tryd.prog W .any base t v := hval0
  have hW' := hW
  obtain ⟨p, q, hA0, hV, rfl, hfz, hnd⟩ := hW
  have hA : DataW.TrodAll enc Tryd.prog W 0 (fun _ => true) true Tryd.f3.params.toList args.toList ds p := hA0
  rw [Tryd.params3] at hA hval
  obtain ⟨v0, v1, v2, d0, d1, d2, p0, p1, p2, rfl, rfl, rfl, h0, h1, h2⟩ := trodAll_three hA
  obtain ⟨a0, rfl, rfl, rfl, w0⟩ := open_int Tryd.underlying22 (hval 0 22 v0 rfl rfl) h0
  obtain ⟨a1, rfl, rfl, rfl, w1⟩ := open_int Tryd.underlying22 (hval 1 22 v1 rfl rfl) h1
  obtain ⟨a2, rfl, rfl, rfl, w2⟩ := open_int Tryd.underlying5 (hval 2 5 v2 rfl rfl) h2
  obtain ⟨b, off, c, hT⟩ := of_laid hL
  clear hA0 hval0
  have hlt := hV.lt
  obtain ⟨g0, t0, cs0, f0, e0, q0, g1, t1, cs1, f1, e1, q1, rfl, hg0, ht0, hv0, hd0, hg1, ht1, hv1, hd1, rfl⟩ := trodVars_two hV
  obtain rfl : t0 = 31 := by
    obtain rfl : g0 = 0 := Option.some.inj (hg0.symm.trans (by kernel_rfl))
    exact Option.some.inj (ht0.symm.trans (by kernel_rfl))
  obtain rfl : t1 = 35 := by
    obtain rfl : g1 = 1 := Option.some.inj (hg1.symm.trans (by kernel_rfl))
    exact Option.some.inj (ht1.symm.trans (by kernel_rfl))
  refine (walk a0 a1 a2 w0 w1 w2 W hT).mono fun e W' ⟨he, n, hw⟩ => ?_
  subst he; subst hw
  have bel := below_drewN W.heap.size W n
  obtain ⟨m0, hm0⟩ := Below.trod (v := .agg cs0) laidOut (by kernel_rfl) (of_decide_eq_true (by kernel_rfl)) ⟨f0, hd0⟩ bel (fun x hx => hlt x (by simp [hx]))
  obtain ⟨m1, hm1⟩ := Below.trod (v := .agg cs1) laidOut (by kernel_rfl) (of_decide_eq_true (by kernel_rfl)) ⟨f1, hd1⟩ bel (fun x hx => hlt x (by simp [hx]))
  exact ⟨_, rfl, _, _, _, [], [], _, hW', trodAll_mk1 (shut_bool Tryd.underlying4 _), trodAll_mk3 (shut_int Tryd.underlying22 w0) (shut_int Tryd.underlying22 w1) (shut_int Tryd.underlying5 w2),
    ⟨g0, 31, cs0, m0, q0, _, hg0, ht0, hv0, hm0, ⟨g1, 35, cs1, m1, q1, _, hg1, ht1, hv1, hm1, rfl, rfl⟩, rfl⟩, bel.frame _, fun h => by cases h⟩

theorem row_holds : Rows.FnHasReadsOneBitOfItsOwnSaid :=
  OpenClaim.holds_of_wide 3 Tryd.f3 rfl rfl rfl rfl rfl rfl rfl ⟨rfl, rfl, rfl, rfl, rfl⟩ rfl rfl rfl rfl rfl (by kernel_rfl) Tryd.func3 (by kernel_rfl)
    (of_decide_eq_true (by kernel_rfl)) (by unfold Func.isWrapper; first | (rw [if_pos (by decide +kernel)]; kernel_rfl) | (rw [if_neg (by decide +kernel)]; exact ⟨rfl, rfl⟩))
    (fun os started H enc _ => lifted os started H enc)

/-- THE STATEMENT: the tied card. -/
theorem card_holds : Rows.FnHasReadsOneBitOfItsOwnCardSaid :=
  Claim7.holds_tied_plain_at .later [] [.widerDeep, .widerDeep] true Rows.fnHasReadsOneBitOfItsOwnCard.stood.harness false
    row_holds (fun _ h => by cases h) (by kernel_rfl) (fun _ h => by cases h) fnHasReadsOneBitOfItsOwn_row_tie rfl ⟨rfl, rfl⟩ (by kernel_rfl) rfl
    (fun f fn hf hfn => by
      obtain rfl : f = 3 := Option.some.inj ((show Tryd.prog.funcNamed Rows.fnHasReadsOneBitOfItsOwnRow.func = some 3 by kernel_rfl).symm.trans hf) |>.symm
      obtain rfl : fn = Tryd.f3 := (Option.some.inj (Tryd.func3.symm.trans hfn)).symm
      exact ⟨by kernel_rfl, fun j t ht => by
        rw [Tryd.params3] at ht
        have hm : t ∈ [22, 22, 5] := by simpa using Array.mem_of_getElem? ht
        have hall : ([22, 22, 5].all fun u => !Tryd.prog.wantsStandIn u) = true := by kernel_rfl
        exact (show Tryd.prog.wantsStandIn t = false by simpa using List.all_eq_true.1 hall t hm)⟩)
    (by kernel_rfl)
#print axioms card_holds
end Go.Proofs.Qxb6614503aDoor
