/-
  THE WALKS of ZZnewInitiatorEnded, hasEnded, ZZhasEnded.
-/
import Derived.Test.Qxb6614451aMapBool
import Derived.WalkSpells
namespace Go.Proofs.Qxb6614451a
open Go.RowKit Go.Maps Go.WideMaps

theorem ownsMap_below {H : Type} {P : Program} {k : TypeId} {R : Value → Option (DataW H × List MemPlace)} {w w' : World} {b n M : Nat} {D : DataW H} (h : w.ownsMap P k R b n D) (hb : Below M w w') (hlt : b < M) : w'.ownsMap P k R b n D := by
  obtain ⟨es, clock, hbk, F, hs, hD⟩ := h
  exact ⟨es, clock, (hb.block b hlt).trans hbk, F, hs, hD⟩

theorem Tells.below {w w' : World} {b n M : Nat} {l : List Int} (h : Tells w b n l) (hb : Below M w w') (hlt : b < M) : Tells w' b n l := by
  obtain ⟨D, ho, hm, ha⟩ := h
  exact ⟨D, ownsMap_below ho hb hlt, hm, ha⟩

theorem Tells.made (w : World) : Tells (w.alloc (.map #[] 0)) w.heap.size 0 [] :=
  ⟨.map [], World.ownsMap_made _ _ _ _, ⟨_, rfl⟩, fun x => by simp [DataW.atKey]⟩

set_option maxRecDepth 100000 in
theorem new_any (B : Nat) (w : World) : Calls Try.prog 25 #[.map (some B)] w fun e w' => e = .returned (.pointer (some ⟨w.heap.size, 0, Option.none⟩)) ∧ w'.heap.size = w.heap.size + 1 ∧ w'.cell? ⟨w.heap.size, 22, Option.none⟩ = some (.map (some B)) ∧ Below w.heap.size w w' := by
  go_enter Try.func25, Try.ntmps25
  go_wp2
  go_ret
  exact ⟨rfl, by simp, by simp, (Below.refl _ _).alloc (Nat.le_refl _) _⟩

set_option maxRecDepth 100000 in
theorem has_any (b B n : Nat) (l : List Int) (x : Int) (c : Bool) (w : World) (hx : (Lit.int .i32 x).wf = true) (hc : w.cell? ⟨b, 22, Option.none⟩ = some (.map (some B))) (hT : Tells w B n l) (hcl : l.contains x = c) :
    Calls Try.prog 31 #[.pointer (some ⟨b, 0, Option.none⟩), .int .i32 x] w fun e w' => e = .returned (.bool c) ∧ w' = w := by
  obtain ⟨D, hown, _, hat⟩ := hT
  have hat' := hat x
  rw [hcl] at hat'
  have Hat : Hid (D.atKey (.int .i32 x) (.lit (.bool false)) = .lit (.bool c)) := hat'
  clear hat hat' hcl
  go_enter Try.func31, Try.ntmps31
  go_wp2_with (at_lookup; refine wpList_lookup_own_bool _ rfl _ _ 54 rfl 21 4 law21 Try.underlying54 Try.underlying4 (zero4 _) B n D rfl hown _ _ rfl (keyOf_int_mk Try.underlying21 hx) ?_; intro c' hat)
  have hh := Hat.out
  rw [hat] at hh
  injection hh with hh
  injection hh with hh
  subst hh
  go_wp2
  go_ret
  exact ⟨rfl, rfl⟩

set_option maxRecDepth 100000 in
theorem zz_any (b B n : Nat) (l : List Int) (x : Int) (c : Bool) (w : World) (hx : (Lit.int .i32 x).wf = true) (hc : w.cell? ⟨b, 22, Option.none⟩ = some (.map (some B))) (hT : Tells w B n l) (hcl : l.contains x = c) :
    Calls Try.prog 26 #[.pointer (some ⟨b, 0, Option.none⟩), .int .i32 x] w fun e w' => e = .returned (.bool c) ∧ w' = w := by
  have h := has_any b B n l x c w hx hc hT hcl
  clear hc hT hcl
  go_enter Try.func26, Try.ntmps26
  go_wp2_with (go_at_call 31; refine h.mono ?_; rintro e w' ⟨rfl, rfl⟩)
  go_ret
  exact ⟨rfl, rfl⟩
end Go.Proofs.Qxb6614451a
