/-
  THE WALK of FnAppendStringFramesReadBack.
-/
import Derived.Test.Qxb6614825aFrame
namespace Go.Proofs.Qxb6614825a
open Go.RowKit
open Go.Lib (uvarint uvarint_small uvarint_big byteCells)

theorem own_open {w : World} {B : Nat} {v : Value} {l : List UInt8} (h : Own w B v l) (hl : 0 < l.length) : ∃ g cap, v = .slice (some ⟨g, 0, Option.none⟩) l.length cap ∧ B ≤ g ∧ g < w.heap.size ∧ Cells w g l := by
  have h' : w.ownsRow B 5 1 v l.length (byteCells l) := h
  rcases h.2 with ⟨_, h0⟩ | ⟨g, cap, cur, hv, hg, hgg, _⟩
  · omega
  · subst hv
    refine ⟨g, cap, rfl, hg, (Array.getElem?_eq_some_iff.1 hgg).1, fun j hj => ?_⟩
    rw [h'.cellAt j (by omega)]
    simp [byteCells, hj]

theorem framed_pos (s : List UInt8) : 0 < (framed s).length := by
  rw [framed_length]
  have := Go.Lib.uvarint_pos s.length
  omega

theorem below_draws {B : Nat} {a w : World} (h : Below B a w) (q : Nat) : Below B a (w.drewN q) := ⟨h.os, h.tape, h.output, h.size, h.block⟩

theorem Cells.draws {w : World} {g : Nat} {l : List UInt8} (h : Cells w g l) (q : Nat) : Cells (w.drewN q) g l := h

set_option maxRecDepth 100000 in
set_option maxHeartbeats 2000000 in
theorem back_small (a0 : Option Addr) (n cap0 : Nat) (l : List UInt8) (s t : ByteArray) (w : World) (hl : l.length = n) (hsum : n + s.size + t.size ≤ 1048576) (hnil : a0 = Option.none → l = []) (hc : Row w a0 l w.heap.size) :
    Calls Try.prog 3 #[.slice a0 n cap0, .string s, .string t] w fun e w' => e = .returned (.bool true) ∧ Below w.heap.size w w' := by
  have d1 : decide ((1048576 : Int) < (n : Int)) = false := by simp; omega
  have d2 : decide ((1048576 : Int) < (s.size : Int)) = false := by simp; omega
  have d3 : decide ((1048576 : Int) < (t.size : Int)) = false := by simp; omega
  have d4 : decide ((1048576 : Int) < (n : Int) + (s.size : Int) + (t.size : Int)) = false := by simp; omega
  have HC := hide hc
  have HL := hide hl
  have HCl := hide (clone_any a0 n cap0 l w w.heap.size (Nat.le_refl _) hl (by omega) hnil hc)
  clear hc hl hnil
  go_enter Try.func3, Try.ntmps3
  go_wp2_with (go_at_call 5; go_in)
  refine (unhide HCl).mono ?_
  rintro e w1 ⟨v1, rfl, ho1, hb1⟩
  have HO1 := hide ho1
  have HB1 := hide hb1
  clear ho1 hb1 HCl
  go_wp2_with fail
  refine (zzAppend_any w.heap.size v1 l s w1 (unhide HB1).size (by have := unhide HL; omega) (unhide HO1)).mono ?_
  rintro e w2 ⟨v2, rfl, ho2, hb2⟩
  have HO2 := hide ho2
  have HB2 := hide ((unhide HB1).trans hb2)
  clear ho2 hb2 HO1 HB1
  have hul := uv_length_le (x := s.size) (by omega)
  have hfl : (l ++ framed s.data.toList).length = n + ((uvarint s.size).length + s.size) := by
    rw [List.length_append, framed_length, size_list, unhide HL]
  have HFL := hide hfl
  clear hfl
  go_wp2_with fail
  refine (zzAppend_any w.heap.size v2 (l ++ framed s.data.toList) t w2 (unhide HB2).size (by rw [unhide HFL]; omega) (unhide HO2)).mono ?_
  rintro e w3 ⟨v3, rfl, ho3, hb3⟩
  have HB3 := hide ((unhide HB2).trans hb3)
  have htl := uv_length_le (x := t.size) (by omega)
  have hN : (l ++ framed s.data.toList ++ framed t.data.toList).length = n + ((uvarint s.size).length + s.size) + ((uvarint t.size).length + t.size) := by
    rw [List.length_append, unhide HFL, framed_length, size_list]
  obtain ⟨g, cap, rfl, hg1, hg2, hcells⟩ := own_open ho3 (by rw [List.length_append]; have := framed_pos t.data.toList; omega)
  have HCells := hide hcells
  clear ho3 hb3 hcells HO2 HB2
  rw [hN]
  have hf1 := fun q => frame_any g (n + ((uvarint s.size).length + s.size) + ((uvarint t.size).length + t.size)) cap n (l ++ framed s.data.toList ++ framed t.data.toList) l (framed t.data.toList) s (w3.drewN q) (by omega) hN (by omega) (List.append_assoc _ _ _) (unhide HL) (unhide HCells)
  have hf2 := fun q => frame_any g (n + ((uvarint s.size).length + s.size) + ((uvarint t.size).length + t.size)) cap (n + (uvarint s.size).length + s.size) (l ++ framed s.data.toList ++ framed t.data.toList) (l ++ framed s.data.toList) [] t (w3.drewN q) (by omega) hN (by omega) (by rw [List.append_nil]) (by rw [unhide HFL]; omega) (unhide HCells)
  have HF1 := hide hf1
  have HF2 := hide hf2
  have HBL : Hid (∀ k (hk : k < l.length), w3.cell? ⟨g, k, Option.none⟩ = some (.int .u8 ((l[k]).toNat : Int))) := fun k hk => by
    have h := unhide HCells k (by simp; omega)
    rw [List.getElem_append_left (by rw [List.length_append]; omega), List.getElem_append_left hk] at h
    exact h
  clear hf1 hf2 HCells HFL hN
  generalize (uvarint s.size).length = us at HF1 HF2 hul ⊢
  generalize (uvarint t.size).length = ut at HF1 HF2 htl ⊢
  go_wp2_with fail
  have HR3 := hide ((unhide HC).below (unhide HB3) (Nat.le_refl _))
  go_loopw [8] (fun i wr => ∃ k q : Nat, k ≤ n ∧ i = .int .i64 k ∧ wr = w3.drewN q) (fun i _ => n - (RowKit.intOf i).toNat)
  case atStart => exact ⟨0, 0, Nat.zero_le _, rfl, rfl⟩
  case round =>
    obtain ⟨k, q, hk, rfl, rfl⟩ := hrel
    by_cases hlt : k < n
    · have hkl : k < l.length := by have := unhide HL; omega
      obtain ⟨b, off, rfl, hb, hcell⟩ := unhide HR3 k hkl
      have ho := unhide HBL k hkl
      generalize (l[k]).toNat = c at hcell ho
      go_wp2
      go_quiet ((fail))
      go_wp2
      go_roundw
      case rel => exact ⟨k + 1, _, by omega, by go_num, rfl⟩
      case measure => simp [RowKit.intOf]; omega
    · have : n = k := by omega
      subst this
      go_wp2_with fail
      refine (unhide HF1 _).mono ?_
      rintro e w4 ⟨rfl, q1, rfl⟩
      go_wp2_with fail
      rw [show (n : Int) + (us : Int) + (s.size : Int) = ((n + us + s.size : Nat) : Int) by omega]
      refine (unhide HF2 _).mono ?_
      rintro e w5 ⟨rfl, q2, rfl⟩
      go_wp2_with fail
      go_ret
      refine ⟨congrArg (fun b => Ending.returned (Value.bool b)) (?_ : ((n : Int) + us + s.size + ut + t.size == (n : Int) + (us + s.size) + (ut + t.size)) = true), below_draws (unhide HB3) _⟩
      rw [beq_iff_eq]
      omega

/-- The bytes of a slice of numbers that came in. -/
def bytesOf (z : List Int) (n : Nat) : List UInt8 := (z.take n).map fun c => UInt8.ofNat c.toNat

theorem bytesOf_length (z : List Int) (n : Nat) (h : n ≤ z.length) : (bytesOf z n).length = n := by
  unfold bytesOf
  rw [List.length_map, List.length_take]
  omega

theorem bytesOf_at (z : List Int) (n j : Nat) (hz : ∀ c ∈ z, 0 ≤ c ∧ c ≤ 255) (h : n ≤ z.length) (hj : j < (bytesOf z n).length) : (((bytesOf z n)[j]).toNat : Int) = z.getD j 0 := by
  have hn := bytesOf_length z n h
  have hjz : j < z.length := by omega
  have hb := hz z[j] (List.getElem_mem hjz)
  rw [List.getD, List.getElem?_eq_getElem hjz]
  simp only [bytesOf, List.getElem_map, List.getElem_take, Option.getD_some]
  have e : (UInt8.ofNat z[j].toNat).toNat = z[j].toNat := by
    rw [UInt8.toNat_ofNat']
    omega
  rw [e]
  omega
end Go.Proofs.Qxb6614825a
