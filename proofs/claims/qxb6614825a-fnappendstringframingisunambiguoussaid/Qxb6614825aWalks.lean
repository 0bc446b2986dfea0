/-
  THE WALKS of zzCloneBytes, appendString, ZZappendString, zzUvarintLen.
-/
import Derived.Test.Qxb6614825aRows
import Derived.Test.Qxb6614825aShelf
import Derived.Test.Qxb6614825aPlain
import Derived.WalkKit
import Derived.WalkSpells
import Derived.Below
import Derived.Deep.OwnRows
import Derived.Deep.QuietTactic
import Derived.BigQuiet
import Derived.Lib.AppendStr
namespace Go.Proofs.Qxb6614825a
open Go.RowKit Go.Lib

theorem hide {p : Prop} (h : p) : Hid p := h
theorem unhide {p : Prop} (h : Hid p) : p := h

theorem info5 : (Try.prog.info? 5).map (fun i => (i.zero, i.size, i.bytes)) = some (some (.int .u8 0), 1, 1) := by kernel_rfl

/-- The slice v owns the bytes l among the blocks from B on. -/
def Own (w : World) (B : Nat) (v : Value) (l : List UInt8) : Prop := w.ownsRow B 5 1 v l.length (byteCells l)

/-- What is told of a slice of bytes that came in. -/
def Row (w : World) (a0 : Option Addr) (l : List UInt8) (M : Nat) : Prop :=
  ∀ j (hj : j < l.length), ∃ b off, a0 = some ⟨b, off, Option.none⟩ ∧ b < M ∧ w.cell? ⟨b, off + j, Option.none⟩ = some (.int .u8 ((l[j]).toNat : Int))

theorem Row.below {w w' : World} {a0 : Option Addr} {l : List UInt8} {M B : Nat} (h : Row w a0 l M) (hb : Below B w w') (hM : M ≤ B) : Row w' a0 l M := by
  intro j hj
  obtain ⟨b, off, rfl, h1, h2⟩ := h j hj
  exact ⟨b, off, rfl, h1, (hb.cell (p := ⟨b, off + j, Option.none⟩) (Nat.lt_of_lt_of_le h1 hM)).trans h2⟩

theorem strCells_bytes (s : ByteArray) : strCells s = byteCells s.data.toList := rfl

theorem frame_own {w : World} {B : Nat} {v : Value} {l : List UInt8} {s : ByteArray} (h : w.ownsRow B 5 1 v (l.length + (uvarint s.size).length + s.size) (byteCells l ++ byteCells (uvarint s.size) ++ strCells s)) : Own w B v (l ++ framed s.data.toList) := by
  have hs : s.data.toList.length = s.size := by rw [Array.length_toList]; rfl
  unfold Own framed
  rw [hs]
  have e1 : (l ++ (uvarint s.size ++ s.data.toList)).length = l.length + (uvarint s.size).length + s.size := by
    rw [List.length_append, List.length_append, hs]
    omega
  have e2 : byteCells (l ++ (uvarint s.size ++ s.data.toList)) = byteCells l ++ byteCells (uvarint s.size) ++ strCells s := by
    rw [strCells_bytes]
    simp [byteCells]
  rw [e1, e2]
  exact h

theorem own_block {w : World} {B e size n k : Nat} {v : Value} {xs : List Value} (h : w.ownsRow B e size v n xs) (hk : v.ownBlock = some k) : B ≤ k := by
  rcases h.2 with ⟨rfl, _⟩ | ⟨g, cap, cur, rfl, hg, _⟩
  · simp [Value.ownBlock] at hk
  · simp [Value.ownBlock] at hk
    omega

set_option maxRecDepth 100000 in
set_option maxHeartbeats 1000000 in
theorem append_any (B : Nat) (v : Value) (l : List UInt8) (s : ByteArray) (w : World) (hB : B ≤ w.heap.size) (hl : l.length + s.size ≤ 4194304) (ho : Own w B v l) :
    Calls Try.prog 12 #[v, .string s] w fun e w' => ∃ v', e = .returned v' ∧ Own w' B v' (l ++ framed s.data.toList) ∧ Below B w w' := by
  obtain ⟨i0, hi, hz0, hz1, hz2⟩ := info_parts info5
  have hu := Any.binary_AppendUvarint Try.lays47 B l.length s.size (by omega) v (byteCells l) w ho hB (by omega)
  change Calls Try.prog 14 _ _ _ at hu
  have hul := uvarint_length64 (x := s.size) (by omega)
  have HU := hide hu
  have HF : Hid (∀ (w' : World) (v' : Value), w'.ownsRow B 5 1 v' (l.length + (uvarint s.size).length + s.size) (byteCells l ++ byteCells (uvarint s.size) ++ strCells s) → Own w' B v' (l ++ framed s.data.toList)) := fun w' v' h => frame_own h
  clear hu ho
  generalize byteCells l ++ byteCells (uvarint s.size) = xs at HU HF
  generalize hm : l.length + (uvarint s.size).length = m at HU HF
  have hml : m + s.size ≤ 8388608 := by omega
  clear hm hul
  go_enter Try.func12, Try.ntmps12
  go_wp2_with (first | (go_at_call 14; refine (unhide HU).mono ?_; rintro e w1 ⟨v1, rfl, ho1, hb1⟩; have hB1 : B ≤ w1.heap.size := Nat.le_trans hB hb1.size) | (at_builtin; refine wpList_append_own_string _ rfl (.tmp 9) (.tmp 10) 22 9 rfl B 5 i0 Try.underlying22 Try.underlying9 hi hz0 hz1 hz2 v1 m xs rfl ho1 s rfl (by unfold maxLen; omega) (by omega) hB1 ?_; intro v2 w2 ho2 hg2 _))
  go_ret
  refine ⟨v2, rfl, unhide HF w2 v2 ho2, hb1.grown hg2 hB1 (fun k hk => ?_)⟩
  exact own_block ho1 hk

theorem zzAppend_any (B : Nat) (v : Value) (l : List UInt8) (s : ByteArray) (w : World) (hB : B ≤ w.heap.size) (hl : l.length + s.size ≤ 4194304) (ho : Own w B v l) :
    Calls Try.prog 6 #[v, .string s] w fun e w' => ∃ v', e = .returned v' ∧ Own w' B v' (l ++ framed s.data.toList) ∧ Below B w w' := by
  have h := append_any B v l s w hB hl ho
  have H := hide h
  clear h ho
  go_enter Try.func6, Try.ntmps6
  go_wp2_with (go_at_call 12; refine (unhide H).mono ?_; rintro e w1 ⟨v1, rfl, ho1, hb1⟩)
  go_ret
  exact ⟨v1, rfl, ho1, hb1⟩

set_option maxRecDepth 100000 in
theorem len_any (x : Nat) (w : World) (hx : x ≤ 1048576) : Calls Try.prog 10 #[.int .i64 (x : Int)] w fun e w' => e = .returned (.int .i64 ((uvarint x).length : Nat)) ∧ w' = w := by
  go_enter Try.func10, Try.ntmps10
  go_wp2
  go_loop [0, 3] (fun n k => ∃ y j : Nat, y ≤ x ∧ n = .int .i64 y ∧ k = .int .i64 j ∧ 1 ≤ j ∧ j + y ≤ x + 1 ∧ Hid (j + (uvarint y).length = (uvarint x).length + 1)) (fun n _ => (RowKit.intOf n).toNat)
  case atStart => exact ⟨x, 1, Nat.le_refl _, rfl, rfl, by omega, by omega, Nat.add_comm _ _⟩
  case round =>
    obtain ⟨y, j, hy, rfl, rfl, hj, hjy, HL⟩ := hrel
    by_cases hb : 128 ≤ y
    · have HL2 : Hid (j + 1 + (uvarint (y / 128)).length = (uvarint x).length + 1) := by
        have h := unhide HL
        rw [uv_length_big hb] at h
        show _ = _
        omega
      go_wp2
      go_round
      case rel => exact ⟨y / 128, j + 1, by omega, by go_num, by go_num, by omega, by omega, HL2⟩
      case measure => simp [RowKit.intOf]; omega
    · have hL := unhide HL
      rw [uv_length_small (by omega)] at hL
      have HJ : Hid (j = (uvarint x).length) := by show _ = _; omega
      clear hL HL
      go_wp2
      go_ret
      exact ⟨by rw [← unhide HJ]; rfl, rfl⟩

theorem made_own (w : World) (n : Nat) (l : List UInt8) (B : Nat) (hB : B ≤ w.heap.size) (hl : l.length = n) (hm : n ≤ maxLen) {w' : World} (h : w'.rowIs w.heap.size 5 n (fun j => .int .u8 ((l.getD j 0).toNat : Int))) : Own w' B (.slice (some ⟨w.heap.size, 0, Option.none⟩) n n) l := by
  subst hl
  obtain ⟨c, hb, hn, hc⟩ := h
  refine ⟨by simp [byteCells], Or.inr ⟨w.heap.size, l.length, c, rfl, hB, hb, Nat.le_refl _, hm, by rw [hn, Nat.mul_one], ?_⟩⟩
  rw [Nat.mul_one, List.take_of_length_le (by simp [hn])]
  refine List.ext_getElem (by simp [byteCells, hn]) (fun i h1 h2 => ?_)
  have hi : i < l.length := by simpa [byteCells] using h2
  have hci := hc i hi
  have h3 : i < c.size := by omega
  rw [Array.getElem?_eq_getElem h3] at hci
  have hci' := Option.some.inj hci
  rw [Array.getElem_toList, hci']
  simp [byteCells, List.getD, List.getElem?_eq_getElem hi]

set_option maxRecDepth 100000 in
set_option maxHeartbeats 1000000 in
theorem clone_some (x : Addr) (n cap0 : Nat) (l : List UInt8) (w : World) (B : Nat) (hB : B ≤ w.heap.size) (hl : l.length = n) (hn : n ≤ 1048576) (hc : Row w (some x) l w.heap.size) :
    Calls Try.prog 7 #[.slice (some x) n cap0] w fun e w' => ∃ v', e = .returned v' ∧ Own w' B v' l ∧ Below w.heap.size w w' := by
  have hmk := fun kl kc => run_make_row' (P := Try.prog) 22 5 (.int .u8 0) 1 Try.underlying22 info5 rfl kl kc n (by omega) (by omega)
  have hnil : ∀ w', (binOp .eql 22 (.slice (some x) n cap0) (.slice Option.none 0 0)).run Try.prog w' = .ok (.bool false) w' := fun w' => Lib.run_eql_slice_nil w' 22 5 (some x) n cap0 0 0 Try.underlying22
  have HC := hide hc
  have HL := hide hl
  clear hc hl
  go_enter Try.func7, Try.ntmps7
  go_wp2
  go_loopw [4] (fun i wr => ∃ k : Nat, k ≤ n ∧ i = .int .i64 k ∧ Hid (wr.rowIs w.heap.size 5 n (fun j => .int .u8 (if j < k then ((l.getD j 0).toNat : Int) else 0))) ∧ Hid (Below w.heap.size w wr) ∧ w.heap.size < wr.heap.size) (fun i _ => n - (RowKit.intOf i).toNat)
  case atStart =>
    refine ⟨0, Nat.zero_le _, rfl, ?_, (Below.refl _ _).alloc (Nat.le_refl _) _, by simp⟩
    exact (World.rowIs_made w (.int .u8 0) n 5).congr (fun i _ => by simp)
  case round =>
    obtain ⟨k, hk, rfl, HS, HB, hz0⟩ := hrel
    by_cases hlt : k < n
    · obtain ⟨b, off, hx, hb, hcell⟩ := unhide HC k (by have := unhide HL; omega)
      cases hx
      have hcx : wr.cell? ⟨b, off + k, Option.none⟩ = some (.int .u8 ((l.getD k 0).toNat : Int)) := by
        rw [(unhide HB).cell (p := ⟨b, off + k, Option.none⟩) hb, hcell, List.getD, List.getElem?_eq_getElem (by have := unhide HL; omega)]
        rfl
      have hr := (unhide HS).cell hlt
      have hrf := (unhide HS).frozen k
      clear hcell
      generalize hq : (l.getD k 0).toNat = q at hcx
      have HQ := hide hq
      clear hq
      go_wp2
      go_roundw
      case rel =>
        refine ⟨k + 1, by omega, by go_num, ?_, (unhide HB).setCell (Nat.le_refl _) _, by simpa [World.setCell] using hz0⟩
        refine ((unhide HS).set k _).congr (fun j _ => ?_)
        by_cases e : j = k
        · subst e; simp [← unhide HQ]
        · have : (j < k + 1) ↔ (j < k) := by omega
          simp [e, this]
      case measure => simp [RowKit.intOf]; omega
    · have : n = k := by omega
      subst this
      go_wp2
      go_ret
      refine ⟨_, rfl, made_own w n l B hB (unhide HL) (by unfold maxLen; omega) ((unhide HS).congr (fun j hj => by rw [if_pos hj])), unhide HB⟩

theorem clone_nil (n cap0 : Nat) (w : World) (B : Nat) : Calls Try.prog 7 #[.slice Option.none n cap0] w fun e w' => ∃ v', e = .returned v' ∧ Own w' B v' [] ∧ Below w.heap.size w w' := by
  have hnil : ∀ w', (binOp .eql 22 (.slice Option.none n cap0) (.slice Option.none 0 0)).run Try.prog w' = .ok (.bool true) w' := fun w' => Lib.run_eql_slice_nil w' 22 5 Option.none n cap0 0 0 Try.underlying22
  go_enter Try.func7, Try.ntmps7
  go_wp2
  go_ret
  exact ⟨_, rfl, ⟨rfl, Or.inl ⟨rfl, rfl⟩⟩, Below.refl _ _⟩

theorem clone_any (a0 : Option Addr) (n cap0 : Nat) (l : List UInt8) (w : World) (B : Nat) (hB : B ≤ w.heap.size) (hl : l.length = n) (hn : n ≤ 1048576) (hnil : a0 = Option.none → l = []) (hc : Row w a0 l w.heap.size) :
    Calls Try.prog 7 #[.slice a0 n cap0] w fun e w' => ∃ v', e = .returned v' ∧ Own w' B v' l ∧ Below w.heap.size w w' := by
  cases a0 with
  | none =>
    rw [hnil rfl]
    exact clone_nil n cap0 w B
  | some x => exact clone_some x n cap0 l w B hB hl hn hc
end Go.Proofs.Qxb6614825a
