/-
  THE WALK of zzBitOf: it answers the place of t's word.
-/
import Derived.Test.Qxb6614503aDoorWalks
namespace Go.Proofs.Qxb6614503aDoor
open Go.RowKit

theorem has_pow (k t b off c : Nat) (hk : k < 16) (ht : t < 6) (w : World) (hT : Tabs w b off c) (r : Bool) (hr : decide (k = bt t) = r) :
    Calls Tryd.prog 5 #[.int .u16 (IntKind.u16.wrap (2 ^ k)), .int .u8 (t : Int)] w fun e w' => e = .returned (.bool r) ∧ ∃ q, w' = w.drewN q := by
  have h1 : (2 : Nat) ^ k ≤ 2 ^ 15 := Nat.pow_le_pow_right (by decide) (by omega)
  have h := has_at (2 ^ k) t b off c (by omega) ht w hT
  rw [Nat.testBit_two_pow, hr] at h
  rw [two_pow hk]
  have h2 : ((2 : Int) ^ k) = ((2 ^ k : Nat) : Int) := by simp
  rw [h2]
  exact h

set_option maxRecDepth 100000 in
set_option maxHeartbeats 1000000 in
theorem bitOf_at (t b off c : Nat) (ht : t < 6) (w : World) (hT : Tabs w b off c) :
    Calls Tryd.prog 4 #[.int .u8 (t : Int)] w fun e w' => e = .returned (.int .i64 (bt t : Int)) ∧ ∃ q, w' = w.drewN q := by
  have h5 := fun k (hk : k < 16) q r hr => has_pow k t b off c hk ht (w.drewN q) (hT.drewN q) r hr
  have H5 := hide h5
  have hlt := bt_lt t ht
  clear h5 hT
  generalize bt t = B at H5 hlt ⊢
  go_enter Tryd.func4, Tryd.ntmps4
  go_wp2
  go_loopw [3, 4] (fun f i wr => ∃ k q : Nat, k ≤ 16 ∧ i = .int .u64 k ∧ f = .int .i64 (if B < k then (B : Int) else -1) ∧ wr = w.drewN q) (fun _ i _ => 16 - (intOf i).toNat)
  case atStart => exact ⟨0, 0, by omega, rfl, by simp, rfl⟩
  case round =>
    obtain ⟨k, q, hk, rfl, rfl, rfl⟩ := hrel
    by_cases hk16 : k < 16
    · by_cases hkb : k = B
      · subst hkb
        have h := unhide H5 k hk16 q true (by simp)
        go_wp2_with (go_at_call 5; refine h.mono ?_; rintro e w' ⟨rfl, q', rfl⟩)
        go_roundw
        case rel => exact ⟨k + 1, q + q', by omega, by go_num, by rw [if_pos (by omega)], rfl⟩
        case measure => simp [intOf]; omega
      · have h := unhide H5 k hk16 q false (by simp [hkb])
        go_wp2_with (go_at_call 5; refine h.mono ?_; rintro e w' ⟨rfl, q', rfl⟩)
        go_roundw
        case rel =>
          refine ⟨k + 1, q + q', by omega, by go_num, ?_, rfl⟩
          by_cases hb : B < k
          · rw [if_pos hb, if_pos (by omega)]
          · rw [if_neg hb, if_neg (by omega)]
        case measure => simp [intOf]; omega
    · have : k = 16 := by omega
      subst this
      go_wp2_with fail
      go_ret
      exact ⟨rfl, q, rfl⟩

theorem shift_test (s b : Nat) (hs : s < 65536) : (bits .and .u16 ((s : Int) / 2 ^ b) 1 == 1) = s.testBit b := by
  have h2 : ((2 : Int) ^ b) = ((2 ^ b : Nat) : Int) := by simp
  have h3 : ((s : Int) / ((2 ^ b : Nat) : Int)) = ((s / 2 ^ b : Nat) : Int) := by simp
  have h4 : s / 2 ^ b ≤ s := Nat.div_le_self _ _
  have h5 := u16_and_nat (s / 2 ^ b) 1 (by omega) (by omega)
  rw [h2, h3]
  have h6 : ((1 : Nat) : Int) = 1 := rfl
  rw [h6] at h5
  rw [h5, Nat.testBit_eq_decide_div_mod_eq, nat_mask1]
  have h7 : s / 2 ^ b % 2 = 0 ∨ s / 2 ^ b % 2 = 1 := by omega
  rcases h7 with h7 | h7
  · rw [h7]; rfl
  · rw [h7]; rfl

theorem not_form (s : Nat) (hs : s < 65536) : bits .xor .u16 IntKind.u16.max (s : Int) = ((65535 ^^^ s : Nat) : Int) := by
  have h := u16_xor_nat 65535 s (by decide) hs
  have e : IntKind.u16.max = ((65535 : Nat) : Int) := by decide
  rw [e, h]
theorem not_test (s b : Nat) (hb : b < 16) : (65535 ^^^ s).testBit b = !s.testBit b := by
  have e : (65535 : Nat) = 2 ^ 16 - 1 := by decide
  rw [Nat.testBit_xor, e, Nat.testBit_two_pow_sub_one]
  simp [hb]

set_option maxRecDepth 100000 in
set_option maxHeartbeats 1000000 in
theorem law_at (s u t b off c : Nat) (hs : s < 65536) (hu : u < 65536) (ht : t < 6) (w : World) (hT : Tabs w b off c) :
    Calls Tryd.prog 3 #[.int .u16 (s : Int), .int .u16 (u : Int), .int .u8 (t : Int)] w fun e w' => e = .returned (.bool true) ∧ ∃ q, w' = w.drewN q := by
  have h4 := fun k (hk : k < 6) q => bitOf_at k b off c hk (w.drewN q) (hT.drewN q)
  have h5 := fun s' (hs' : s' < 65536) q => has_at s' t b off c hs' ht (w.drewN q) (hT.drewN q)
  have hinj := fun k (hk : k < 6) (e : bt k = bt t) => bt_inj k t hk ht e
  have hlt := bt_lt t ht
  have H4 := hide h4
  have H5 := hide h5
  have HI := hide hinj
  clear h4 h5 hinj hT
  go_enter Tryd.func3, Tryd.ntmps3
  go_wp2_with (go_at_call 4; refine (unhide H4 t ht 0).mono ?_; rintro e w' ⟨rfl, q, rfl⟩)
  go_loopw [9] (fun i wr => ∃ k q : Nat, k ≤ 6 ∧ i = .int .i64 k ∧ wr = w.drewN q) (fun i _ => 6 - (intOf i).toNat)
  case atStart => exact ⟨0, q, by omega, rfl, rfl⟩
  case round =>
    obtain ⟨k, q, hk, rfl, rfl⟩ := hrel
    by_cases hk6 : k < 6
    · by_cases hkt : k = t
      · subst hkt
        go_wp2_with fail
        go_roundw
        case rel => exact ⟨k + 1, q, by omega, by go_num, rfl⟩
        case measure => simp [intOf]; omega
      · have hne : ((k : Int) != (t : Int)) = true := by simp; omega
        have hbne : ((bt k : Int) == (bt t : Int)) = false := by
          have := mt (unhide HI k hk6) hkt
          simp; omega
        go_wp2_with fail
        refine (unhide H4 k hk6 q).mono ?_
        rintro e w' ⟨rfl, q', rfl⟩
        go_wp2_with fail
        go_roundw
        case rel => exact ⟨k + 1, q + q', by omega, by go_num, rfl⟩
        case measure => simp [intOf]; omega
    · have : k = 6 := by omega
      subst this
      clear H4 HI
      have h1 := unhide H5 s hs
      have h2 := unhide H5 u hu
      have h3 := unhide H5 (s ||| u) (Nat.or_lt_two_pow (n := 16) hs hu)
      have h4 := unhide H5 (s &&& u) (Nat.and_lt_two_pow (n := 16) s hu)
      rw [← u16_or_nat s u hs hu, Nat.testBit_or] at h3
      rw [← u16_and_nat s u hs hu, Nat.testBit_and] at h4
      have h5 := unhide H5 (65535 ^^^ s) (Nat.xor_lt_two_pow (n := 16) (by decide) hs)
      rw [← not_form s hs, not_test s (bt t) (by omega)] at h5
      have hsh := shift_test s (bt t) hs
      clear H5
      generalize s.testBit (bt t) = hS at h1 h3 h4 h5 hsh
      generalize u.testBit (bt t) = hU at h2 h3 h4
      have H1 := hide h1
      have H2 := hide h2
      have H3 := hide h3
      have H4 := hide h4
      have H6 := hide h5
      clear h1 h2 h3 h4 h5
      cases hS <;> cases hU
      ·
        go_wp2_with fail
        refine (unhide H1 _).mono ?_
        rintro e w' ⟨rfl, q1, rfl⟩
        go_wp2_with fail
        refine (unhide H3 _).mono ?_
        rintro e w' ⟨rfl, q2, rfl⟩
        go_wp2_with fail
        refine (unhide H2 _).mono ?_
        rintro e w' ⟨rfl, q3, rfl⟩
        go_wp2_with fail
        refine (unhide H4 _).mono ?_
        rintro e w' ⟨rfl, q4, rfl⟩
        go_wp2_with fail
        refine (unhide H6 _).mono ?_
        rintro e w' ⟨rfl, q5, rfl⟩
        go_wp2_with fail
        go_ret
        exact ⟨rfl, _, rfl⟩
      ·
        go_wp2_with fail
        refine (unhide H1 _).mono ?_
        rintro e w' ⟨rfl, q1, rfl⟩
        go_wp2_with fail
        refine (unhide H3 _).mono ?_
        rintro e w' ⟨rfl, q2, rfl⟩
        go_wp2_with fail
        refine (unhide H2 _).mono ?_
        rintro e w' ⟨rfl, q3, rfl⟩
        go_wp2_with fail
        refine (unhide H4 _).mono ?_
        rintro e w' ⟨rfl, q4, rfl⟩
        go_wp2_with fail
        refine (unhide H6 _).mono ?_
        rintro e w' ⟨rfl, q5, rfl⟩
        go_wp2_with fail
        go_ret
        exact ⟨rfl, _, rfl⟩
      ·
        go_wp2_with fail
        refine (unhide H1 _).mono ?_
        rintro e w' ⟨rfl, q1, rfl⟩
        go_wp2_with fail
        refine (unhide H3 _).mono ?_
        rintro e w' ⟨rfl, q2, rfl⟩
        go_wp2_with fail
        refine (unhide H4 _).mono ?_
        rintro e w' ⟨rfl, q3, rfl⟩
        go_wp2_with fail
        refine (unhide H2 _).mono ?_
        rintro e w' ⟨rfl, q4, rfl⟩
        go_wp2_with fail
        refine (unhide H6 _).mono ?_
        rintro e w' ⟨rfl, q5, rfl⟩
        go_wp2_with fail
        go_ret
        exact ⟨rfl, _, rfl⟩
      ·
        go_wp2_with fail
        refine (unhide H1 _).mono ?_
        rintro e w' ⟨rfl, q1, rfl⟩
        go_wp2_with fail
        refine (unhide H3 _).mono ?_
        rintro e w' ⟨rfl, q2, rfl⟩
        go_wp2_with fail
        refine (unhide H4 _).mono ?_
        rintro e w' ⟨rfl, q3, rfl⟩
        go_wp2_with fail
        refine (unhide H2 _).mono ?_
        rintro e w' ⟨rfl, q4, rfl⟩
        go_wp2_with fail
        refine (unhide H6 _).mono ?_
        rintro e w' ⟨rfl, q5, rfl⟩
        go_wp2_with fail
        go_ret
        exact ⟨rfl, _, rfl⟩

end Go.Proofs.Qxb6614503aDoor
