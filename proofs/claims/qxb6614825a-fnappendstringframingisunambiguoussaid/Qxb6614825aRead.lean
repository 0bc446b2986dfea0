/-
  THE WALKS of zzReadUvarint, zzReadFrame.
-/
import Derived.Test.Qxb6614825aWalks
import Derived.Laws.BitsAllLaws
namespace Go.Proofs.Qxb6614825a
open Go.RowKit

theorem and127 (c : Nat) (hc : c < 256) : IntKind.u64.wrap (bits .and .u8 (c : Int) 127) = ((c % 128 : Nat) : Int) := by
  have h := u8_and_nat c 127 hc (by omega)
  have e : ((127 : Nat) : Int) = 127 := rfl
  have e2 : c &&& 127 = c % 128 := Nat.and_two_pow_sub_one_eq_mod c 7
  rw [e, e2] at h
  rw [h, IntKind.wrap_u64]
  omega

theorem wrap_small (n : Nat) (h : n < 4294967296) : IntKind.u64.wrap (n : Int) = (n : Int) := by
  rw [IntKind.wrap_u64]
  omega

theorem or_zero (n : Nat) (h : n < 4294967296) : bits .or .u64 0 (n : Int) = (n : Int) := by
  have h1 := u64_or_nat 0 n (by omega) (by omega)
  have e : ((0 : Nat) : Int) = 0 := rfl
  rw [e, Nat.zero_or] at h1
  exact h1

theorem or_at (i a b : Nat) (ha : a < 2 ^ i) (hi : a < 4294967296) (hb : b * 2 ^ i < 4294967296) : bits .or .u64 (a : Int) ((b * 2 ^ i : Nat) : Int) = ((a + b * 2 ^ i : Nat) : Int) := by
  have h1 := u64_or_nat a (b * 2 ^ i) (by omega) (by omega)
  have h2 := nat_join i (b * 2 ^ i) a (Nat.mul_mod_left b (2 ^ i)) ha
  rw [h1, Nat.or_comm, h2, Nat.add_comm]

theorem form_two (c0 c1 : Nat) (h0 : c0 < 256) (h1 : c1 < 128) : bits .or .u64 (bits .or .u64 0 (IntKind.u64.wrap (IntKind.u64.wrap (bits .and .u8 (c0 : Int) 127)))) ((c1 : Int) * 128) = ((c0 % 128 + c1 * 128 : Nat) : Int) := by
  rw [and127 c0 h0, wrap_small _ (by omega), or_zero _ (by omega)]
  exact or_at 7 (c0 % 128) c1 (Nat.mod_lt _ (by decide)) (by omega) (by omega)

theorem form_three (c0 c1 c2 : Nat) (h0 : c0 < 256) (h1 : c1 < 256) (h2 : c2 < 128) :
    bits .or .u64 (bits .or .u64 (bits .or .u64 0 (IntKind.u64.wrap (IntKind.u64.wrap (bits .and .u8 (c0 : Int) 127)))) (IntKind.u64.wrap (IntKind.u64.wrap (bits .and .u8 (c1 : Int) 127) * 128))) ((c2 : Int) * 16384) = ((c0 % 128 + c1 % 128 * 128 + c2 * 16384 : Nat) : Int) := by
  rw [and127 c0 h0, and127 c1 h1, wrap_small _ (by omega), or_zero _ (by omega)]
  have e1 : ((c1 % 128 : Nat) : Int) * 128 = ((c1 % 128 * 2 ^ 7 : Nat) : Int) := by omega
  rw [e1, wrap_small _ (by omega), or_at 7 (c0 % 128) (c1 % 128) (Nat.mod_lt _ (by decide)) (by omega) (by omega)]
  exact or_at 14 (c0 % 128 + c1 % 128 * 2 ^ 7) c2 (by omega) (by omega) (by omega)

theorem ret_of {a b : Int} {p q : Int} {x : Value} (h : a = b) (h2 : p = q) : Ending.returned (.tuple #[.int .u64 a, .int .i64 p, x]) = .returned (.tuple #[.int .u64 b, .int .i64 q, x]) := by rw [h, h2]

set_option maxRecDepth 100000 in
set_option maxHeartbeats 1000000 in
theorem uv_one (g N cap p c0 : Nat) (w : World) (hN : N ≤ 8388608) (hp : p < N) (h0 : w.cell? ⟨g, p, Option.none⟩ = some (.int .u8 (c0 : Int))) (hc0 : c0 < 128) :
    Calls Try.prog 13 #[.slice (some ⟨g, 0, Option.none⟩) N cap, .int .i64 (p : Int)] w fun e w' => e = .returned (.tuple #[.int .u64 (c0 : Int), .int .i64 ((p + 1 : Nat) : Int), .bool true]) ∧ w' = w := by
  go_enter Try.func13, Try.ntmps13
  go_wp2
  refine wp_loop_rounds 1 ?_
  rw [rounds_succ]
  go_wp2
  go_ret3
  exact ⟨ret_of (or_zero c0 (by omega)) (by omega), rfl⟩

set_option maxRecDepth 100000 in
set_option maxHeartbeats 1000000 in
theorem uv_two (g N cap p c0 c1 : Nat) (w : World) (hN : N ≤ 8388608) (hp : p + 1 < N) (h0 : w.cell? ⟨g, p, Option.none⟩ = some (.int .u8 (c0 : Int))) (hc0 : 128 ≤ c0) (hc0' : c0 < 256) (h1 : w.cell? ⟨g, p + 1, Option.none⟩ = some (.int .u8 (c1 : Int))) (hc1 : c1 < 128) (hc1' : 0 < c1) :
    Calls Try.prog 13 #[.slice (some ⟨g, 0, Option.none⟩) N cap, .int .i64 (p : Int)] w fun e w' => e = .returned (.tuple #[.int .u64 ((c0 % 128 + c1 * 128 : Nat) : Int), .int .i64 ((p + 2 : Nat) : Int), .bool true]) ∧ w' = w := by
  have hcz : ((c1 : Int) == 0) = false := by simp; omega
  go_enter Try.func13, Try.ntmps13
  go_wp2
  refine wp_loop_rounds 2 ?_
  rw [rounds_succ]
  go_wp2
  rw [rounds_succ]
  go_wp2
  go_ret3
  exact ⟨ret_of (form_two c0 c1 hc0' hc1) (by omega), rfl⟩

set_option maxRecDepth 100000 in
set_option maxHeartbeats 1000000 in
theorem uv_three (g N cap p c0 c1 c2 : Nat) (w : World) (hN : N ≤ 8388608) (hp : p + 2 < N) (h0 : w.cell? ⟨g, p, Option.none⟩ = some (.int .u8 (c0 : Int))) (hc0 : 128 ≤ c0) (hc0' : c0 < 256) (h1 : w.cell? ⟨g, p + 1, Option.none⟩ = some (.int .u8 (c1 : Int))) (hc1 : 128 ≤ c1) (hc1' : c1 < 256)
    (h2 : w.cell? ⟨g, p + 2, Option.none⟩ = some (.int .u8 (c2 : Int))) (hc2 : c2 < 128) (hc2' : 0 < c2) :
    Calls Try.prog 13 #[.slice (some ⟨g, 0, Option.none⟩) N cap, .int .i64 (p : Int)] w fun e w' => e = .returned (.tuple #[.int .u64 ((c0 % 128 + c1 % 128 * 128 + c2 * 16384 : Nat) : Int), .int .i64 ((p + 3 : Nat) : Int), .bool true]) ∧ w' = w := by
  have hcz : ((c2 : Int) == 0) = false := by simp; omega
  have h2' : w.cell? ⟨g, p + 1 + 1, Option.none⟩ = some (.int .u8 (c2 : Int)) := h2
  go_enter Try.func13, Try.ntmps13
  go_wp2
  refine wp_loop_rounds 3 ?_
  rw [rounds_succ]
  go_wp2
  rw [rounds_succ]
  go_wp2
  rw [rounds_succ]
  go_wp2
  go_ret3
  exact ⟨ret_of (form_three c0 c1 c2 hc0' hc1' hc2) (by omega), rfl⟩
end Go.Proofs.Qxb6614825a
