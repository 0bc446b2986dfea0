/-
  THE WALK of zzReadFrame; that of zzBytesEqual.
-/
import Derived.Test.Qxb6614825aRead
namespace Go.Proofs.Qxb6614825a
open Go.RowKit
open Go.Lib (uvarint uvarint_small uvarint_big byteCells)

/-- Block g holds the bytes l from its head on. -/
def Cells (w : World) (g : Nat) (l : List UInt8) : Prop := ∀ j (hj : j < l.length), w.cell? ⟨g, j, Option.none⟩ = some (.int .u8 ((l[j]).toNat : Int))

theorem Cells.head {w : World} {g : Nat} {a r : List UInt8} {b : UInt8} (h : Cells w g (a ++ (b :: r))) : w.cell? ⟨g, a.length, Option.none⟩ = some (.int .u8 (b.toNat : Int)) := by
  have h1 := h a.length (by simp)
  simpa using h1

theorem Cells.at {w : World} {g n : Nat} {l a r : List UInt8} {b : UInt8} (h : Cells w g l) (e : l = a ++ (b :: r)) (hn : a.length = n) : w.cell? ⟨g, n, Option.none⟩ = some (.int .u8 (b.toNat : Int)) := by
  subst e hn
  exact h.head

theorem byte_nat {n : Nat} (h : n < 256) : (n.toUInt8).toNat = n := by
  simp
  omega

theorem uv_any (g N cap : Nat) (l a r : List UInt8) (x : Nat) (w : World) (hN : N ≤ 8388608) (hl : l.length = N) (hx : x ≤ 1048576) (e : l = a ++ (uvarint x ++ r)) (hc : Cells w g l) :
    Calls Try.prog 13 #[.slice (some ⟨g, 0, Option.none⟩) N cap, .int .i64 (a.length : Int)] w fun e w' => e = .returned (.tuple #[.int .u64 (x : Int), .int .i64 ((a.length + (uvarint x).length : Nat) : Int), .bool true]) ∧ w' = w := by
  have hlen : a.length + (uvarint x).length ≤ N := by
    rw [← hl, e, List.length_append, List.length_append]
    omega
  by_cases h1 : x < 128
  · have e1 := uvarint_small h1
    have c0 := hc.at (by rw [e, e1]; rfl) rfl
    rw [byte_nat (by omega)] at c0
    rw [e1] at hlen ⊢
    exact uv_one g N cap a.length x w hN hlen c0 h1
  · have e1 := uvarint_big (x := x) (by omega)
    by_cases h2 : x / 128 < 128
    · rw [uvarint_small h2] at e1
      have c0 := hc.at (by rw [e, e1]; rfl) rfl
      have c1 := hc.at (a := a ++ [(x % 128 + 128).toUInt8]) (b := (x / 128).toUInt8) (r := r) (n := a.length + 1) (by rw [e, e1, List.append_assoc]; rfl) (by simp)
      rw [byte_nat (by omega)] at c0
      rw [byte_nat (by omega)] at c1
      rw [e1] at hlen ⊢
      have h := uv_two g N cap a.length (x % 128 + 128) (x / 128) w hN hlen c0 (by omega) (by omega) c1 (by omega) (by omega)
      have e2 : (x % 128 + 128) % 128 + x / 128 * 128 = x := by omega
      rw [e2] at h
      exact h
    · have e2 := uvarint_big (x := x / 128) (by omega)
      rw [uvarint_small (x := x / 128 / 128) (by omega)] at e2
      rw [e2] at e1
      have c0 := hc.at (by rw [e, e1]; rfl) rfl
      have c1 := hc.at (a := a ++ [(x % 128 + 128).toUInt8]) (b := (x / 128 % 128 + 128).toUInt8) (r := (x / 128 / 128).toUInt8 :: r) (n := a.length + 1) (by rw [e, e1, List.append_assoc]; rfl) (by simp)
      have c2 := hc.at (a := a ++ [(x % 128 + 128).toUInt8, (x / 128 % 128 + 128).toUInt8]) (b := (x / 128 / 128).toUInt8) (r := r) (n := a.length + 2) (by rw [e, e1, List.append_assoc]; rfl) (by simp)
      rw [byte_nat (by omega)] at c0
      rw [byte_nat (by omega)] at c1
      rw [byte_nat (by omega)] at c2
      rw [e1] at hlen ⊢
      have h := uv_three g N cap a.length (x % 128 + 128) (x / 128 % 128 + 128) (x / 128 / 128) w hN hlen c0 (by omega) (by omega) c1 (by omega) (by omega) c2 (by omega) (by omega)
      have e3 : (x % 128 + 128) % 128 + (x / 128 % 128 + 128) % 128 * 128 + x / 128 / 128 * 16384 = x := by omega
      rw [e3] at h
      exact h

theorem size_list (s : ByteArray) : s.data.toList.length = s.size := by rw [Array.length_toList]; rfl

set_option maxRecDepth 100000 in
set_option maxHeartbeats 1000000 in
theorem frame_any (g N cap p : Nat) (l a r : List UInt8) (s : ByteArray) (w : World) (hN : N ≤ 8388608) (hl : l.length = N) (hs : s.size ≤ 1048576) (e : l = a ++ (framed s.data.toList ++ r)) (hp : a.length = p) (hc : Cells w g l) :
    Calls Try.prog 8 #[.slice (some ⟨g, 0, Option.none⟩) N cap, .int .i64 (p : Int), .string s] w fun e w' => e = .returned (.tuple #[.int .i64 ((p + (uvarint s.size).length + s.size : Nat) : Int), .bool true]) ∧ ∃ q, w' = w.drewN q := by
  subst hp
  have hsl := size_list s
  have e' : l = a ++ (uvarint s.size ++ (s.data.toList ++ r)) := by
    rw [e]
    unfold framed
    rw [hsl, List.append_assoc]
  have hu := uv_any g N cap l a (s.data.toList ++ r) s.size w hN hl hs e' hc
  have hfit : a.length + (uvarint s.size).length + s.size ≤ N := by
    rw [← hl, e', List.length_append, List.length_append, List.length_append, hsl]
    omega
  have hcell : ∀ k (hk : k < s.size), w.cell? ⟨g, a.length + (uvarint s.size).length + k, Option.none⟩ = some (.int .u8 ((s[k]'hk).toNat : Int)) := by
    intro k hk
    have hk' : k < s.data.toList.length := by omega
    refine hc.at (a := a ++ uvarint s.size ++ s.data.toList.take k) (b := s.data.toList[k]) (r := s.data.toList.drop (k + 1) ++ r) ?_ ?_
    · rw [e', List.append_assoc, List.append_assoc]
      congr 2
      rw [← List.cons_append, ← List.append_assoc, List.getElem_cons_drop, List.take_append_drop]
    · simp
      omega
  have HU := hide hu
  have HCell := hide hcell
  have HN := hide hN
  clear hu hcell e e' hc hl hsl
  generalize (uvarint s.size).length = u at HU HCell hfit ⊢
  generalize hnx : a.length + u = nx at HU HCell hfit ⊢
  clear hnx
  go_enter Try.func8, Try.ntmps8
  go_wp2_with (go_at_call 13; refine (unhide HU).mono ?_; rintro e w1 ⟨rfl, rfl⟩)
  go_loopw [11] (fun i wr => ∃ k q : Nat, k ≤ s.size ∧ i = .int .i64 k ∧ wr = w1.drewN q) (fun i _ => s.size - (RowKit.intOf i).toNat)
  case atStart => exact ⟨0, 0, Nat.zero_le _, rfl, rfl⟩
  case round =>
    obtain ⟨k, q, hk, rfl, rfl⟩ := hrel
    by_cases hlt : k < s.size
    · have hcx := unhide HCell k hlt
      go_wp2
      go_quiet ((fail))
      go_wp2
      go_roundw
      case rel => exact ⟨k + 1, _, by omega, by go_num, rfl⟩
      case measure => simp [RowKit.intOf]; omega
    · go_wp2
      go_ret2
      exact ⟨by go_num, q, rfl⟩
end Go.Proofs.Qxb6614825a
