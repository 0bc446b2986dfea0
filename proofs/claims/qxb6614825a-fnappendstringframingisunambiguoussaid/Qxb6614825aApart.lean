/-
  THE WALK of FnAppendStringFramingIsUnambiguous.
-/
import Derived.Test.Qxb6614825aEqual
namespace Go.Proofs.Qxb6614825a
open Go.RowKit
open Go.Lib (uvarint uvarint_small uvarint_big byteCells)

theorem Row.more {w : World} {a0 : Option Addr} {l : List UInt8} {M N : Nat} (h : Row w a0 l M) (hM : M ≤ N) : Row w a0 l N := by
  intro j hj
  obtain ⟨b, off, e, h1, h2⟩ := h j hj
  exact ⟨b, off, e, Nat.lt_of_lt_of_le h1 hM, h2⟩

theorem Cells.below {w w' : World} {g B : Nat} {l : List UInt8} (h : Cells w g l) (hb : Below B w w') (hg : g < B) : Cells w' g l := fun j hj => (hb.cell (p := ⟨g, j, Option.none⟩) hg).trans (h j hj)

/-- Two frames tell both strings, in the walk's own words. -/
theorem frames_tell (l : List UInt8) (s1 t1 s2 t2 : ByteArray) :
    decide (l ++ framed s1.data.toList ++ framed t1.data.toList = l ++ framed s2.data.toList ++ framed t2.data.toList) = ((s1.toList == s2.toList) && (t1.toList == t2.toList)) := by
  rw [ByteArray.toList_eq, ByteArray.toList_eq, ByteArray.toList_eq, ByteArray.toList_eq, Bool.eq_iff_iff, decide_eq_true_iff, frames_iff]
  simp

set_option maxRecDepth 100000 in
set_option maxHeartbeats 2000000 in
theorem apart_small (a0 : Option Addr) (n cap0 : Nat) (l : List UInt8) (s1 t1 s2 t2 : ByteArray) (w : World) (hl : l.length = n) (hsum : n + s1.size + t1.size + s2.size + t2.size ≤ 1048576) (hnil : a0 = Option.none → l = []) (hc : Row w a0 l w.heap.size) :
    Calls Try.prog 4 #[.slice a0 n cap0, .string s1, .string t1, .string s2, .string t2] w fun e w' => e = .returned (.bool true) ∧ Below w.heap.size w w' := by
  have d1 : decide ((1048576 : Int) < (n : Int)) = false := by simp; omega
  have d2 : decide ((1048576 : Int) < (s1.size : Int)) = false := by simp; omega
  have d3 : decide ((1048576 : Int) < (t1.size : Int)) = false := by simp; omega
  have d4 : decide ((1048576 : Int) < (s2.size : Int)) = false := by simp; omega
  have d5 : decide ((1048576 : Int) < (t2.size : Int)) = false := by simp; omega
  have d6 : decide ((1048576 : Int) < (n : Int) + (s1.size : Int) + (t1.size : Int) + (s2.size : Int) + (t2.size : Int)) = false := by simp; omega
  have HC := hide hc
  have HL := hide hl
  have HNil := hide hnil
  have HCl := hide (clone_any a0 n cap0 l w w.heap.size (Nat.le_refl _) hl (by omega) hnil hc)
  clear hc hl hnil
  go_enter Try.func4, Try.ntmps4
  go_wp2_with (go_at_call 9; go_in)
  refine (unhide HCl).mono ?_
  rintro e w1 ⟨v1, rfl, ho1, hb1⟩
  have HO1 := hide ho1
  have HB1 := hide hb1
  clear ho1 hb1 HCl
  go_wp2_with fail
  refine (zzAppend_any w.heap.size v1 l s1 w1 (unhide HB1).size (by have := unhide HL; omega) (unhide HO1)).mono ?_
  rintro e w2 ⟨v2, rfl, ho2, hb2⟩
  have HO2 := hide ho2
  have HB2 := hide ((unhide HB1).trans hb2)
  clear ho2 hb2 HO1 HB1
  have hu1 := uv_length_le (x := s1.size) (by omega)
  have hu2 := uv_length_le (x := t1.size) (by omega)
  have hu3 := uv_length_le (x := s2.size) (by omega)
  have hu4 := uv_length_le (x := t2.size) (by omega)
  have HFL1 : Hid ((l ++ framed s1.data.toList).length = n + ((uvarint s1.size).length + s1.size)) := by
    show _ = _
    rw [List.length_append, framed_length, size_list, unhide HL]
  have HFL2 : Hid ((l ++ framed s2.data.toList).length = n + ((uvarint s2.size).length + s2.size)) := by
    show _ = _
    rw [List.length_append, framed_length, size_list, unhide HL]
  go_wp2_with fail
  refine (zzAppend_any w.heap.size v2 (l ++ framed s1.data.toList) t1 w2 (unhide HB2).size (by rw [unhide HFL1]; omega) (unhide HO2)).mono ?_
  rintro e w3 ⟨v3, rfl, ho3, hb3⟩
  have HB3 := hide ((unhide HB2).trans hb3)
  have HN1 : Hid ((l ++ framed s1.data.toList ++ framed t1.data.toList).length = n + ((uvarint s1.size).length + s1.size) + ((uvarint t1.size).length + t1.size)) := by
    show _ = _
    rw [List.length_append, unhide HFL1, framed_length, size_list]
  have HN2 : Hid ((l ++ framed s2.data.toList ++ framed t2.data.toList).length = n + ((uvarint s2.size).length + s2.size) + ((uvarint t2.size).length + t2.size)) := by
    show _ = _
    rw [List.length_append, unhide HFL2, framed_length, size_list]
  obtain ⟨g1, cap1, rfl, hg1, hg2, hcells⟩ := own_open ho3 (by rw [List.length_append]; have := framed_pos t1.data.toList; omega)
  have HCells := hide hcells
  clear ho3 hb3 hcells HO2 HB2
  rw [unhide HN1]
  have HR3 := hide (((unhide HC).below (unhide HB3) (Nat.le_refl _)).more (unhide HB3).size)
  have HCl := hide (clone_any a0 n cap0 l w3 w3.heap.size (Nat.le_refl _) (unhide HL) (by omega) (unhide HNil) (unhide HR3))
  go_wp2_with fail
  refine (unhide HCl).mono ?_
  rintro e w4 ⟨v4, rfl, ho4, hb4⟩
  have HO4 := hide ho4
  have HB4 := hide hb4
  clear ho4 hb4 HCl
  go_wp2_with fail
  refine (zzAppend_any w3.heap.size v4 l s2 w4 (unhide HB4).size (by have := unhide HL; omega) (unhide HO4)).mono ?_
  rintro e w5 ⟨v5, rfl, ho5, hb5⟩
  have HO5 := hide ho5
  have HB5 := hide ((unhide HB4).trans hb5)
  clear ho5 hb5 HO4 HB4
  go_wp2_with fail
  refine (zzAppend_any w3.heap.size v5 (l ++ framed s2.data.toList) t2 w5 (unhide HB5).size (by rw [unhide HFL2]; omega) (unhide HO5)).mono ?_
  rintro e w6 ⟨v6, rfl, ho6, hb6⟩
  have HB6 := hide ((unhide HB5).trans hb6)
  obtain ⟨g2, cap2, rfl, hg3, hg4, hcells2⟩ := own_open ho6 (by rw [List.length_append]; have := framed_pos t2.data.toList; omega)
  have HCells2 := hide hcells2
  have HCells1 := hide ((unhide HCells).below (unhide HB6) hg2)
  have HEnd := hide ((unhide HB3).trans ((unhide HB6).mono (unhide HB3).size))
  clear ho6 hb6 hcells2 HO5 HB5 HCells HR3 HC HB3 HB6
  have HE := hide (equal_any g1 g2 cap1 cap2 _ _ w6 (by rw [unhide HN1]; omega) (unhide HCells1) (unhide HCells2))
  have HE' : Hid (Calls Try.prog 11 #[.slice (some ⟨g1, 0, Option.none⟩) (n + ((uvarint s1.size).length + s1.size) + ((uvarint t1.size).length + t1.size)) cap1, .slice (some ⟨g2, 0, Option.none⟩) (n + ((uvarint s2.size).length + s2.size) + ((uvarint t2.size).length + t2.size)) cap2] w6 fun e w' => e = .returned (.bool ((s1.toList == s2.toList) && (t1.toList == t2.toList))) ∧ ∃ q, w' = w6.drewN q) := by
    have h := unhide HE
    rw [unhide HN1, unhide HN2, frames_tell] at h
    exact h
  rw [unhide HN2]
  clear HE HN1 HN2 HFL1 HFL2 HCells1 HCells2 HNil HL
  have HL1 := hide (len_any s1.size w6 (by omega))
  have HL2 := hide (len_any t1.size w6 (by omega))
  generalize (uvarint s1.size).length = u1 at HE' HL1 hu1 ⊢
  generalize (uvarint t1.size).length = u2 at HE' HL2 hu2 ⊢
  generalize (uvarint s2.size).length = u3 at HE' hu3 ⊢
  generalize (uvarint t2.size).length = u4 at HE' hu4 ⊢
  go_wp2_with fail
  refine (unhide HL1).mono ?_
  rintro e w7 ⟨rfl, rfl⟩
  go_wp2_with fail
  refine (unhide HL2).mono ?_
  rintro e w8 ⟨rfl, rfl⟩
  go_wp2_with fail
  refine (unhide HE').mono ?_
  rintro e w9 ⟨rfl, q, rfl⟩
  have hfin : ((n : Int) + (u1 + s1.size) + (u2 + t1.size) == (n : Int) + u1 + s1.size + u2 + t1.size) = true := by
    rw [beq_iff_eq]
    omega
  cases e1 : (s1.toList == s2.toList) <;> cases e2 : (t1.toList == t2.toList)
  · go_wp2_with fail
    go_ret
    exact ⟨rfl, below_draws (unhide HEnd) q⟩
  · go_wp2_with fail
    go_ret
    exact ⟨rfl, below_draws (unhide HEnd) q⟩
  · go_wp2_with fail
    go_ret
    exact ⟨rfl, below_draws (unhide HEnd) q⟩
  · go_wp2_with fail
    go_ret
    exact ⟨rfl, below_draws (unhide HEnd) q⟩
end Go.Proofs.Qxb6614825a
