/-
  THE WALK of FnSortRulesOrderFreeAndSteady.
-/
import Derived.Test.Qxb6614503aKeeps
import Derived.Test.Qxb6614503aSort
import Derived.Test.Qxb6614503aPlain
namespace Go.Proofs.Qxb6614503a
open Go.RowKit

/-- What is told of a slice of ints that came in. -/
def Row (w : World) (a0 : Option Addr) (n : Nat) (z : Nat → Int) (M : Nat) : Prop :=
  ∀ j, j < n → ∃ b off, a0 = some ⟨b, off, Option.none⟩ ∧ b < M ∧ w.cell? ⟨b, off + j, Option.none⟩ = some (.int .i64 (z j))

theorem Row.below {w w' : World} {a0 : Option Addr} {n : Nat} {z : Nat → Int} {M B : Nat} (h : Row w a0 n z M) (hb : Below B w w') (hM : M ≤ B) : Row w' a0 n z M := by
  intro j hj
  obtain ⟨b, off, rfl, h1, h2⟩ := h j hj
  exact ⟨b, off, rfl, h1, (hb.cell (p := ⟨b, off + j, Option.none⟩) (Nat.lt_of_lt_of_le h1 hM)).trans h2⟩

theorem Row.mono {w : World} {a0 : Option Addr} {n : Nat} {z : Nat → Int} {M M' : Nat} (h : Row w a0 n z M) (hM : M ≤ M') : Row w a0 n z M' := by
  intro j hj
  obtain ⟨b, off, rfl, h1, h2⟩ := h j hj
  exact ⟨b, off, rfl, by omega, h2⟩

theorem build_at (R n : Nat) (z : Nat → Int) (a0 : Option Addr) (cap0 : Nat) (w : World) (hR : w.heap.size = R) (hn : n ≤ 65536) (hc : Row w a0 n z R) :
    Calls Try.prog 6 #[.slice a0 n cap0] w fun e w' => e = .returned (.tuple #[.pointer (some ⟨R + 2 + n, 0, Option.none⟩), .slice (some ⟨R + 1, 0, Option.none⟩) n n]) ∧
      Pol w' R n z id ∧ Below R w w' ∧ w'.heap.size = R + 3 + n := by
  subst hR
  exact build_any n z a0 cap0 w hn hc

theorem once_step {wr : World} {C n k q : Nat} {z : Nat → Int} {d : Nat → Nat} (h : wr.rowIs C 3 n (fun j => .int .i64 (if j < k then z (d j) else 0))) :
    ((wr.drewN q).setCell ⟨C, k, Option.none⟩ (.int .i64 (z (d k)))).rowIs C 3 n (fun j => .int .i64 (if j < k + 1 then z (d j) else 0)) := by
  have h0 : (wr.drewN q).rowIs C 3 n (fun j => .int .i64 (if j < k then z (d j) else 0)) := h
  refine (h0.set k _).congr (fun j _ => ?_)
  by_cases e : j = k
  · subst e; simp
  · have : (j < k + 1) ↔ (j < k) := by omega
    simp [e, this]

set_option maxRecDepth 100000 in
set_option maxHeartbeats 4000000 in
theorem steady_small (n : Nat) (z : Nat → Int) (a0 : Option Addr) (cap0 : Nat) (w : World) (hn : n ≤ 65536) (hc : Row w a0 n z w.heap.size) :
    Calls Try.prog 4 #[.slice a0 n cap0] w fun e w' => e = .returned (.bool true) ∧ Below w.heap.size w w' := by
  have hmk := fun kl kc => run_make_row' (P := Try.prog) 22 3 (.int .i64 0) 8 Try.underlying22 info3 rfl kl kc n (by omega) (by omega)
  have HC := hide hc
  clear hc
  go_enter Try.func4, Try.ntmps4
  go_wp2_with (go_at_call 10; go_in)
  go_loopw [5] (fun i wr => ∃ k : Nat, k ≤ n ∧ i = .int .i64 k ∧ Hid (wr.rowIs w.heap.size 3 n (fun j => .int .i64 (if j < k then z (n - 1 - j) else 0))) ∧ Hid (Below w.heap.size w wr) ∧ Hid (wr.heap.size = w.heap.size + 1)) (fun i _ => n - (intOf i).toNat)
  case atStart =>
    refine ⟨0, Nat.zero_le _, rfl, ?_, (Below.refl _ _).alloc (Nat.le_refl _) _, by show (w.alloc _).heap.size = _; simp⟩
    exact (World.rowIs_made w (.int .i64 0) n 3).congr (fun i _ => by simp)
  case round =>
    obtain ⟨k, hk, rfl, HS, HB, HZ⟩ := hrel
    have hz0 : w.heap.size < wr.heap.size := by have := unhide HZ; omega
    by_cases hlt : k < n
    · obtain ⟨b, off, rfl, hb, hcell⟩ := unhide HC (n - 1 - k) (by omega)
      have hcx : wr.cell? ⟨b, off + (n - 1 - k), Option.none⟩ = some (.int .i64 (z (n - 1 - k))) := ((unhide HB).cell (by exact hb)).trans hcell
      have hr := (unhide HS).cell hlt
      have hrf := (unhide HS).frozen k
      clear hcell
      go_wp2
      go_roundw
      case rel =>
        refine ⟨k + 1, by omega, by go_num, ?_, (unhide HB).setCell (Nat.le_refl _) _, by show (wr.setCell _ _).heap.size = _; simpa [World.setCell] using unhide HZ⟩
        refine ((unhide HS).set k _).congr (fun j _ => ?_)
        by_cases e : j = k
        · subst e; simp
        · have : (j < k + 1) ↔ (j < k) := by omega
          simp [e, this]
      case measure => simp [intOf]; omega
    · have : n = k := by omega
      subst this
      clear hk hlt hz0
      have HR := hide ((unhide HC).below (unhide HB) (Nat.le_refl _))
      have HV : Hid (∀ j, j < n → wr.cell? ⟨w.heap.size, j, Option.none⟩ = some (.int .i64 (z (n - 1 - j)))) := fun j hj => by
        have h := (unhide HS).cell hj
        rw [if_pos hj] at h
        exact h
      clear HS
      go_wp2_with fail
      refine (build_at (w.heap.size + 1) n z a0 cap0 wr (unhide HZ) hn ((unhide HR).mono (Nat.le_succ _))).mono ?_
      rintro e w1 ⟨rfl, hP1, hB1, hz1⟩
      have HP1 := hide hP1
      have HB1 := hide hB1
      have HZ1 := hide hz1
      have HV1 : Hid (Row w1 (some ⟨w.heap.size, 0, Option.none⟩) n (fun j => z (n - 1 - j)) (w.heap.size + 1 + 3 + n)) := fun j hj =>
        ⟨w.heap.size, 0, rfl, by omega, ((unhide HB1).cell (p := ⟨w.heap.size, 0 + j, Option.none⟩) (Nat.lt_succ_self _)).trans (by rw [Nat.zero_add]; exact unhide HV j hj)⟩
      clear hP1 hB1 hz1 HV HZ
      go_wp2_with fail
      refine (build_at (w.heap.size + 1 + 3 + n) n (fun j => z (n - 1 - j)) (some ⟨w.heap.size, 0, Option.none⟩) n w1 (unhide HZ1) hn (unhide HV1)).mono ?_
      rintro e w2 ⟨rfl, hP2, hB2, hz2⟩
      have HPp := hide ((unhide HP1).below hB2 (by omega))
      have HPq := hide hP2
      have HB2 : Hid (Below w.heap.size w w2) := ((unhide HB).trans ((unhide HB1).mono (Nat.le_succ _))).trans (hB2.mono (by omega))
      clear hP2 hB2 hz2 HP1 HB1 HZ1 HV1 HB
      have q1 : w.heap.size < w.heap.size + 1 := by omega
      have q2 : w.heap.size + 1 + 2 + n < w.heap.size + 1 + 3 + n := by omega
      go_wp2_with fail
      generalize w.heap.size + 1 + 3 + n = R2 at q2 HPq ⊢
      generalize w.heap.size + 1 = R1 at q1 q2 HPp ⊢
      refine (zzSort_pol R1 n z id w2 hn (unhide HPp)).mono ?_
      rintro e w3 ⟨rfl, hg3, d1, hP3, hs1⟩
      have HP3 := hide hP3
      have HQ3 := hide ((unhide HPq).kept hg3.size (fun b h1 h2 => hg3.block b (by have := (unhide HPq).lt; omega) (by simp; omega)))
      have HS1 := hide hs1
      have HB3 := hide ((unhide HB2).grown hg3 (unhide HB2).size (fun k hk => by cases hk; omega))
      clear hg3 hP3 hs1 HPp HPq HB2
      go_wp2_with fail
      refine (zzSort_pol R2 n (fun j => z (n - 1 - j)) id w3 hn (unhide HQ3)).mono ?_
      rintro e w4 ⟨rfl, hg4, d2, hQ4, hs2⟩
      have HP4 := hide ((unhide HP3).kept hg4.size (fun b h1 h2 => hg4.block b (by have := (unhide HP3).lt; omega) (by simp; omega)))
      have HQ4 := hide hQ4
      have HS2 := hide hs2
      have HB4 := hide ((unhide HB3).grown hg4 (unhide HB3).size (fun k hk => by cases hk; omega))
      have HEQ := hide (same_rev (unhide HP4).perm (unhide HQ4).perm (unhide HS1) (unhide HS2))
      have HL1 := hide (unhide HP4).lt
      have HL2 := hide (unhide HQ4).lt
      clear hg4 hQ4 hs2 HP3 HQ3 HB3 HS2
      have hp1 := (unhide HP4).pol
      have hp2 := (unhide HQ4).pol
      go_wp2_with fail
      clear hp1 hp2 hmk
      go_loopw [11] (fun i wr => ∃ k : Nat, k ≤ n ∧ i = .int .i64 k ∧ Hid (wr.rowIs w4.heap.size 3 n (fun j => .int .i64 (if j < k then z (d1 j) else 0))) ∧ Hid (Below w4.heap.size w4 wr)) (fun i _ => n - (intOf i).toNat)
      case atStart =>
        refine ⟨0, Nat.zero_le _, rfl, ?_, (Below.refl _ _).alloc (Nat.le_refl _) _⟩
        exact (World.rowIs_made w4 (.int .i64 0) n 3).congr (fun i _ => by simp)
      case round =>
        obtain ⟨k, hk, rfl, HO, HBo⟩ := hrel
        have HPr := hide ((unhide HP4).below (unhide HBo) (unhide HL1))
        have HQr := hide ((unhide HQ4).below (unhide HBo) (unhide HL2))
        by_cases hlt : k < n
        · have hp1 := (unhide HPr).pol
          have hp2 := (unhide HQr).pol
          have hr1 := ((unhide HPr).rows k hlt).1
          have hr2 := ((unhide HQr).rows k hlt).1
          have hi1 := (unhide HPr).idx (d1 k) ((unhide HPr).inb k hlt)
          have hi2 := (unhide HQr).idx (d2 k) ((unhide HQr).inb k hlt)
          have ho := (unhide HO).cell hlt
          have hof := (unhide HO).frozen k
          simp only [Nat.lt_irrefl, if_false] at ho
          have heq := unhide HEQ k hlt
          simp only [← heq] at hi2
          clear heq
          unfold pt at hr1 hr2
          by_cases hk0 : 0 < k
          · have g4 : decide ((0 : Int) < (k : Int)) = true := by simp; omega
            have ho1 := (unhide HO).cell (i := k - 1) (by omega)
            have hle := unhide HS1 (k - 1) k (by omega) hlt
            simp only [show (k - 1 < k) = True from eq_true (by omega), if_true] at ho1
            have g3 : decide (z (d1 k) < z (d1 (k - 1))) = false := by simp; omega
            clear hle
            go_wp2
            go_quiet ((fail))
            go_wp2
            go_quiet ((fail))
            go_wp2
            go_roundw
            case rel => exact ⟨k + 1, by omega, by go_num, once_step (unhide HO), (below_draws (unhide HBo) _).setCell (Nat.le_refl _) _⟩
            case measure => simp [intOf]; omega
          · have g4 : decide ((0 : Int) < (k : Int)) = false := by simp; omega
            go_wp2
            go_quiet ((fail))
            go_wp2
            go_quiet ((fail))
            go_wp2
            go_roundw
            case rel => exact ⟨k + 1, by omega, by go_num, once_step (unhide HO), (below_draws (unhide HBo) _).setCell (Nat.le_refl _) _⟩
            case measure => simp [intOf]; omega
        · have : n = k := by omega
          subst this
          clear hk hlt HQr HQ4 HL2 HEQ
          have HRr := hide ((unhide HC).below ((unhide HB4).trans ((unhide HBo).mono (unhide HB4).size)) (Nat.le_refl _))
          have HON : Hid (∀ j, j < n → wr.cell? ⟨w4.heap.size, j, Option.none⟩ = some (.int .i64 (z (d1 j)))) := fun j hj => by
            have h := (unhide HO).cell hj
            rw [if_pos hj] at h
            exact h
          clear HO
          by_cases hn0 : 0 < n
          case' pos =>
            obtain ⟨b, off, rfl, hb, hcell0⟩ := unhide HRr 0 hn0
            rw [Nat.add_zero] at hcell0
            go_wp2_with fail
            go_loop [14, 15, 16] (fun lo hi i => ∃ (k : Nat) (lo' hi' : Int), 1 ≤ k ∧ k ≤ n ∧ i = .int .i64 k ∧ lo = .int .i64 lo' ∧ hi = .int .i64 hi' ∧ Hid (Least z k lo') ∧ Hid (Most z k hi')) (fun _ _ i => n - (intOf i).toNat)
            case atStart => exact ⟨1, _, _, by omega, by omega, rfl, rfl, rfl, Least.one z, Most.one z⟩
            case' round =>
              obtain ⟨k, lo, hi, hk1, hk, rfl, rfl, rfl, HLo, HHi⟩ := hrel
              by_cases hlt : k < n
              case pos =>
                obtain ⟨b', off', e, _, hck⟩ := unhide HRr k hlt
                cases e
                by_cases h1 : z k < lo <;> by_cases h2 : hi < z k
                all_goals
                  go_wp2
                  go_round
                  case rel => exact ⟨k + 1, _, _, by omega, by omega, by go_num, rfl, rfl, by first | exact (unhide HLo).new h1 | exact (unhide HLo).old h1, by first | exact (unhide HHi).new h2 | exact (unhide HHi).old h2⟩
                  case measure => simp [intOf]; omega
              case' neg =>
                have : n = k := by omega
                subst this
                have e1 := first_least hn0 (unhide HPr).perm (unhide HS1) (unhide HLo)
                have e2 := last_most hn0 (unhide HPr).perm (unhide HS1) (unhide HHi)
                subst e1 e2
                have ho1 := unhide HON 0 hn0
                have ho2 := unhide HON (n - 1) (by omega)
                clear HLo HHi
                go_wp2_with fail
                clear ho1 ho2 hcell0
          case' neg =>
            go_wp2_with fail
          all_goals
            refine (zzSort_pol R1 n z d1 wr hn (unhide HPr)).mono ?_
            rintro e w5 ⟨rfl, hg5, d3, hP5, hs3⟩
            have HP5 := hide hP5
            have HS3 := hide hs3
            have HB5 := hide (((unhide HB4).trans ((unhide HBo).mono (unhide HB4).size)).grown hg5 (Nat.le_trans (unhide HB4).size (unhide HBo).size) (fun k hk => by cases hk; omega))
            have HR5 := hide ((unhide HC).below (unhide HB5) (Nat.le_refl _))
            have HE3 := hide (same_again (unhide HPr).perm (unhide HP5).perm (unhide HS1) (unhide HS3))
            have HON5 : Hid (∀ j, j < n → w5.cell? ⟨w4.heap.size, j, Option.none⟩ = some (.int .i64 (z (d3 j)))) := fun j hj => by
              have hlt4 := block_lt_of_cell (unhide HON j hj)
              have hl1 := unhide HL1
              rw [← unhide HE3 j hj]
              exact (World.cell?_of_block (a := ⟨w4.heap.size, j, Option.none⟩) (hg5.block _ hlt4 (by simp; omega))).trans (unhide HON j hj)
            have hp5 := (unhide HP5).pol
            clear hg5 hP5 hs3 HE3 HON HPr HRr HBo
            go_wp2_with fail
            refine (keeps_any R1 n z d3 _ cap0 w5 hn (unhide HP5) (unhide HS3) ((unhide HR5).mono (unhide HB5).size)).mono ?_
            rintro e w6 ⟨rfl, hB6⟩
            have HP6 := hide ((unhide HP5).below hB6 (unhide HP5).lt)
            have HON6 : Hid (∀ j, j < n → w6.cell? ⟨w4.heap.size, j, Option.none⟩ = some (.int .i64 (z (d3 j)))) := fun j hj =>
              (hB6.cell (p := ⟨w4.heap.size, j, Option.none⟩) (block_lt_of_cell (unhide HON5 j hj))).trans (unhide HON5 j hj)
            have HB6 := hide ((unhide HB5).trans (hB6.mono (unhide HB5).size))
            clear hB6 HP5 HON5 HB5 HR5 HB4 HC HR hp5
            go_wp2_with fail
            go_loopw [17] (fun i wr => ∃ k q : Nat, k ≤ n ∧ i = .int .i64 k ∧ wr = w6.drewN q) (fun i _ => n - (intOf i).toNat)
            case atStart => exact ⟨0, 0, Nat.zero_le _, rfl, rfl⟩
            case round =>
              obtain ⟨k, q, hk, rfl, rfl⟩ := hrel
              by_cases hlt : k < n
              · have hp6 := (unhide HP6).pol
                have hr6 := ((unhide HP6).rows k hlt).1
                have hi6 := (unhide HP6).idx (d3 k) ((unhide HP6).inb k hlt)
                have ho6 := unhide HON6 k hlt
                unfold pt at hr6
                go_wp2
                go_quiet ((fail))
                go_wp2
                go_roundw
                case rel => exact ⟨k + 1, _, by omega, by go_num, rfl⟩
                case measure => simp [intOf]; omega
              · have : n = k := by omega
                subst this
                go_wp2
                go_ret
                exact ⟨rfl, below_draws (unhide HB6) _⟩
end Go.Proofs.Qxb6614503a
