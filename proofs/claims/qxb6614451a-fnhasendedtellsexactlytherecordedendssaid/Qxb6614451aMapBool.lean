/-
  THE LOOK-UP 'm[k]' IN A map[int32]bool THAT THE CALL MADE: the kit's 'wpList_lookup_own_int' (Derived/Maps/OwnOps.lean) at bool elements; and the set as a list of numbers.
-/
import Derived.Test.Qxb6614451aRows
import Derived.Maps.OwnOps
import Derived.Maps.OwnSet
import Derived.Maps.Views
import Derived.WalkKit
namespace Go.Proofs.Qxb6614451a
open Go.RowKit Go.Maps Go.WideMaps

theorem plainElem_bool_inv {H : Type} {P : Program} {e : TypeId} (he : P.underlying e = some .bool) {v : Value} {z : DataW H × List MemPlace} (h : plainElem P e v = some z) : ∃ x, v = .bool x ∧ z = (.lit (.bool x), []) := by
  unfold plainElem at h
  rw [he] at h
  cases v <;> simp at h
  subst h
  exact ⟨_, rfl, rfl⟩

theorem wpList_lookup_own_bool {H : Type} {P : Program} (w : World) {ops : Array Oper} {rest : List Oper} {o : Oper} {a : Act} {Q : Exit → Act → World → Prop}
    (hg : o.guard = Option.none) (m x : Operand) (t : TypeId) (hop : o.op = Op.lookup t m x false)
    (k e : TypeId) (K : Keyed P k) (ht : P.underlying t = some (.map k e)) (he : P.underlying e = some .bool) (hz : (zeroValue e).run P w = .ok (.bool false) w) (b n : Nat) (D : DataW H)
    (hm : a.eval m = .map (some b)) (hown : w.ownsMap P k (plainElem P e) b n D) (key : Value) (kl : Lit) (hx : a.eval x = key) (hkey : keyOf P k key = some kl)
    (hK : ∀ c : Bool, D.atKey kl (.lit (.bool false)) = .lit (.bool c) → wpList P ops Q rest (a.put o.dst (.bool c)) w) :
    wpList P ops Q (o :: rest) a w := by
  refine wpList_plain hg fun K' hK' => ?_
  obtain ⟨v, ps, hrun, hv⟩ := hown.lookup K ht hz (plainElem_bool he false) hkey
  obtain ⟨c, rfl, hc⟩ := plainElem_bool_inv he hv
  simp only [Prod.mk.injEq] at hc
  unfold Oper.wp
  simp [execOp, hop, hm, hx, hrun, Result.andThen]
  exact hK' _ _ (hK c hc.1)

/-- Block B is a map[int32]bool of at most n entries; at every number it tells whether the number stands in l. -/
def Tells (w : World) (B n : Nat) (l : List Int) : Prop :=
  ∃ D : DataW Unit, w.ownsMap Try.prog 21 (plainElem Try.prog 4) B n D ∧ IsMap D ∧ ∀ x : Int, D.atKey (.int .i32 x) (.lit (.bool false)) = .lit (.bool (l.contains x))

theorem law21 : Keyed Try.prog 21 := int_keyed Try.underlying21
theorem zero4 (w : World) : (zeroValue 4).run Try.prog w = .ok (.bool false) w := by kernel_rfl

theorem put_tells {D : DataW Unit} {l : List Int} (hD : IsMap D) (h : ∀ x : Int, D.atKey (.int .i32 x) (.lit (.bool false)) = .lit (.bool (l.contains x))) (q : Int) :
    ∀ x : Int, (D.put (.int .i32 q) (.lit (.bool true))).atKey (.int .i32 x) (.lit (.bool false)) = .lit (.bool ((l ++ [q]).contains x)) := by
  intro x
  by_cases e : x = q
  · subst e
    rw [atKey_put_same hD (by trivial)]
    simp
  · rw [atKey_put_other (by intro h'; injection h' with _ h''; exact e h''), h x]
    simp [e]

end Go.Proofs.Qxb6614451a
