/-
  THE PLAIN LAW OF THE FRAMES: a string behind its length as a varint: no Go in sight.
-/
import Derived.Lib.Varint
namespace Go.Proofs.Qxb6614825a
open Go.Lib

theorem byte_inj {a b : Nat} (ha : a < 256) (hb : b < 256) (h : a.toUInt8 = b.toUInt8) : a = b := by
  have h' := congrArg UInt8.toNat h
  simp at h'
  omega

theorem uv_inj : ∀ (x y : Nat) (r1 r2 : List UInt8), uvarint x ++ r1 = uvarint y ++ r2 → x = y ∧ r1 = r2 := by
  intro x
  induction x using Nat.strongRecOn with
  | ind x ih =>
    intro y r1 r2 h
    by_cases hx : x < 128
    · by_cases hy : y < 128
      · rw [uvarint_small hx, uvarint_small hy] at h
        simp only [List.cons_append, List.nil_append, List.cons.injEq] at h
        exact ⟨byte_inj (by omega) (by omega) h.1, h.2⟩
      · rw [uvarint_small hx, uvarint_big (by omega)] at h
        simp only [List.cons_append, List.nil_append, List.cons.injEq] at h
        have := byte_inj (by omega) (by omega) h.1
        omega
    · by_cases hy : y < 128
      · rw [uvarint_big (by omega), uvarint_small hy] at h
        simp only [List.cons_append, List.nil_append, List.cons.injEq] at h
        have := byte_inj (by omega) (by omega) h.1
        omega
      · rw [uvarint_big (x := x) (by omega), uvarint_big (x := y) (by omega)] at h
        simp only [List.cons_append, List.cons.injEq] at h
        have e1 := byte_inj (by omega) (by omega) h.1
        obtain ⟨e2, e3⟩ := ih (x / 128) (by omega) (y / 128) r1 r2 h.2
        exact ⟨by omega, e3⟩

/-- A string behind its length. -/
def framed (s : List UInt8) : List UInt8 := uvarint s.length ++ s

theorem framed_length (s : List UInt8) : (framed s).length = (uvarint s.length).length + s.length := by simp [framed]

theorem framed_inj {s1 s2 r1 r2 : List UInt8} (h : framed s1 ++ r1 = framed s2 ++ r2) : s1 = s2 ∧ r1 = r2 := by
  unfold framed at h
  rw [List.append_assoc, List.append_assoc] at h
  obtain ⟨e1, e2⟩ := uv_inj _ _ _ _ h
  exact List.append_inj e2 e1

/-- Two frames behind one another tell both strings. -/
theorem frames_iff (b s1 t1 s2 t2 : List UInt8) : b ++ framed s1 ++ framed t1 = b ++ framed s2 ++ framed t2 ↔ s1 = s2 ∧ t1 = t2 := by
  constructor
  · intro h
    rw [List.append_assoc, List.append_assoc] at h
    obtain ⟨e1, e2⟩ := framed_inj (List.append_cancel_left h)
    have e3 : framed t1 ++ [] = framed t2 ++ [] := by rw [e2]
    exact ⟨e1, (framed_inj e3).1⟩
  · rintro ⟨rfl, rfl⟩
    rfl

/-- The number of groups of seven bits. -/
theorem uv_length_big {x : Nat} (h : 128 ≤ x) : (uvarint x).length = (uvarint (x / 128)).length + 1 := by
  rw [uvarint_big h]
  simp

theorem uv_length_small {x : Nat} (h : x < 128) : (uvarint x).length = 1 := by
  rw [uvarint_small h]
  rfl

theorem uv_length_le {x : Nat} (h : x ≤ 1048576) : (uvarint x).length ≤ 3 := uvarint_length 2 x (by omega)
end Go.Proofs.Qxb6614825a
