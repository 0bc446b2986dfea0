/-
  THE WALK of zzKeepsAndOrders.
-/
import Derived.Test.Qxb6614503aBuild
import Derived.Deep.QuietTactic
import Derived.BigQuiet
import Derived.Lib.Builder
namespace Go.Proofs.Qxb6614503a
open Go.RowKit

theorem below_draws {B : Nat} {a w : World} (h : Below B a w) (q : Nat) : Below B a (w.drewN q) := ⟨h.os, h.tape, h.output, h.size, h.block⟩

/-- Which tags the first k places bear. -/
def seenB (d : Nat → Nat) (k j : Nat) : Bool := (List.range k).any fun i => d i == j

theorem seenB_zero (d : Nat → Nat) (j : Nat) : seenB d 0 j = false := by simp [seenB]
theorem seenB_succ (d : Nat → Nat) (k j : Nat) : seenB d (k + 1) j = (seenB d k j || d k == j) := by simp [seenB, List.range_succ, List.any_append]
theorem seenB_new {d : Nat → Nat} {n k : Nat} (hinj : ∀ i j, i < n → j < n → d i = d j → i = j) (hk : k < n) : seenB d k (d k) = false := by
  unfold seenB
  rw [List.any_eq_false]
  intro i hi
  rw [List.mem_range] at hi
  simp
  intro e
  have := hinj i k (by omega) hk e
  omega

theorem neq_ptr (a : Addr) (w : World) : (binOp .neq 43 (.pointer (some a)) (.pointer (some a))).run Try.prog w = .ok (.bool false) w := by
  obtain ⟨i, hi, _⟩ := Option.map_eq_some_iff.1 (show (Try.prog.info? 42).map (fun i => i.size) = some 9 by kernel_rfl)
  exact Go.Lib.run_neq_ptr_same (P := Try.prog) w a Try.underlying43 hi

set_option maxRecDepth 100000 in
set_option maxHeartbeats 1000000 in
theorem keeps_any (R n : Nat) (z : Nat → Int) (d : Nat → Nat) (a0 : Option Addr) (cap0 : Nat) (w : World) (hn : n ≤ 65536) (hP : Pol w R n z d) (hord : ∀ i j, i < j → j < n → z (d i) ≤ z (d j))
    (hc : ∀ j, j < n → ∃ b off, a0 = some ⟨b, off, Option.none⟩ ∧ b < w.heap.size ∧ w.cell? ⟨b, off + j, Option.none⟩ = some (.int .i64 (z j))) :
    Calls Try.prog 8 #[.slice (some ⟨R, 0, Option.none⟩) n n, .slice (some ⟨R + 1, 0, Option.none⟩) n n, .slice a0 n cap0] w fun e w' => e = .returned (.bool true) ∧ Below w.heap.size w w' := by
  have hmk := fun kl kc => run_make_row' (P := Try.prog) 45 4 (.bool false) 1 Try.underlying45 info4 rfl kl kc n (by omega) (by omega)
  have hRlt := hP.lt
  have HC := hide hc
  have HO := hide hord
  have HP := hide hP
  clear hc hord hP
  go_enter Try.func8, Try.ntmps8
  go_wp2
  go_loopw [9] (fun i wr => ∃ k : Nat, k ≤ n ∧ i = .int .i64 k ∧ Hid (wr.rowIs w.heap.size 4 n (fun j => .bool (seenB d k j))) ∧ Hid (Below w.heap.size w wr)) (fun i _ => n - (intOf i).toNat)
  case atStart =>
    refine ⟨0, Nat.zero_le _, rfl, ?_, (Below.refl _ _).alloc (Nat.le_refl _) _⟩
    exact (World.rowIs_made w (.bool false) n 4).congr (fun i _ => by rw [seenB_zero])
  case round =>
    clear hmk
    obtain ⟨k, hk, rfl, HS, HB⟩ := hrel
    have HPr := hide ((unhide HP).below (unhide HB) hRlt)
    by_cases hlt : k < n
    · have hdk := (unhide HPr).inb k hlt
      have hrow := ((unhide HPr).rows k hlt).1
      have htag := (unhide HPr).tag (d k) hdk
      have hidx := (unhide HPr).idx (d k) hdk
      have horig := (unhide HPr).orig (d k) hdk
      have hseen := (unhide HS).cell hdk
      have hseenf := (unhide HS).frozen (d k)
      rw [seenB_new (unhide HPr).inj hlt] at hseen
      obtain ⟨b, off, rfl, hb, hcell⟩ := unhide HC (d k) hdk
      have hcx : wr.cell? ⟨b, off + d k, Option.none⟩ = some (.int .i64 (z (d k))) := ((unhide HB).cell (by exact hb)).trans hcell
      clear hcell
      unfold pt at hrow horig
      have hpn : ∀ (a : Addr) (w : World), (binOp .neq 43 (.pointer (some a)) (.pointer (some a))).run Try.prog w = .ok (.bool false) w := neq_ptr
      have g1 : decide (((d k : Nat) : Int) < 0) = false := by simp
      have g2 : decide ((n : Int) ≤ ((d k : Nat) : Int)) = false := by simp; omega
      go_wp2
      go_quiet ((fail))
      go_wp2
      have hB2 : Below w.heap.size w ((wr.drewN nq).setCell ⟨w.heap.size, d k, Option.none⟩ (.bool true)) :=
        Below.setCell (below_draws (unhide HB) nq) (Nat.le_refl _) _
      have hS2 : ((wr.drewN nq).setCell ⟨w.heap.size, d k, Option.none⟩ (.bool true)).rowIs w.heap.size 4 n (fun j => .bool (seenB d (k + 1) j)) := by
        have h0 : (wr.drewN nq).rowIs w.heap.size 4 n (fun j => .bool (seenB d k j)) := unhide HS
        refine (h0.set (d k) (.bool true)).congr (fun j _ => ?_)
        rw [seenB_succ]
        by_cases e : j = d k
        · subst e; simp
        · have e' : (d k == j) = false := by simp; omega
          simp [e, e']
      generalize ((wr.drewN nq).setCell ⟨w.heap.size, d k, Option.none⟩ (.bool true)) = w2 at hB2 hS2 ⊢
      have HB2 := hide hB2
      have HS2 := hide hS2
      have HPr2 := hide ((unhide HP).below hB2 hRlt)
      clear hB2 hS2 hcx hrow htag hidx horig hseen hseenf hpn HPr HB HS
      have hrow := ((unhide HPr2).rows k hlt).1
      have hidx := (unhide HPr2).idx (d k) hdk
      unfold pt at hrow
      by_cases hk0 : 0 < k
      · have hdk1 := (unhide HPr2).inb (k - 1) (by omega)
        have hrow1 := ((unhide HPr2).rows (k - 1) (by omega)).1
        have hidx1 := (unhide HPr2).idx (d (k - 1)) hdk1
        have hle := unhide HO (k - 1) k (by omega) hlt
        have g3 : decide (z (d k) < z (d (k - 1))) = false := by simp; omega
        have g4 : decide ((0 : Int) < (k : Int)) = true := by simp; omega
        unfold pt at hrow1
        go_quiet ((fail))
        go_wp2
        go_roundw
        case rel => exact ⟨k + 1, by omega, by go_num, unhide HS2, below_draws (unhide HB2) _⟩
        case measure => simp [intOf]; omega
      · have g4 : decide ((0 : Int) < (k : Int)) = false := by simp; omega
        go_quiet ((fail))
        go_wp2
        go_roundw
        case rel => exact ⟨k + 1, by omega, by go_num, unhide HS2, below_draws (unhide HB2) _⟩
        case measure => simp [intOf]; omega
    · have : k = n := by omega
      subst this
      go_wp2
      go_ret
      exact ⟨rfl, unhide HB⟩
end Go.Proofs.Qxb6614503a
