/-
  THE WALKS of Sec.String, slices.Index at wordList, wordList.bit, secOf, SecSet.Has, zzBitOf.
-/
import Derived.Test.Qxb6614503aDoorRows
import Derived.WalkKit
import Derived.WalkSpells
import Derived.Below
import Derived.Deep.QuietTactic
import Derived.BigQuiet
import Derived.Laws.BitsAllLaws
namespace Go.Proofs.Qxb6614503aDoor
open Go.RowKit

theorem hide {p : Prop} (h : p) : Hid p := h
theorem unhide {p : Prop} (h : Hid p) : p := h

/-- The words of access.secWords. -/
def accL : List (List UInt8) := [[110, 111, 110, 101], [107, 114, 98, 53], [107, 114, 98, 53, 105], [107, 114, 98, 53, 112], [110, 116, 108, 109], [115, 121, 115]]
/-- The words of ontap.secWords. -/
def ontL : List (List UInt8) := [[97, 110, 121], [110, 111, 110, 101], [110, 101, 118, 101, 114], [107, 114, 98, 53], [107, 114, 98, 53, 105], [107, 114, 98, 53, 112], [110, 116, 108, 109], [115, 121, 115]]
def accW (j : Nat) : ByteArray := ⟨(accL.getD j []).toArray⟩
def ontW (j : Nat) : ByteArray := ⟨(ontL.getD j []).toArray⟩
/-- Where the word of security type t stands among ontap's words. -/
def bt (t : Nat) : Nat := [1, 3, 4, 5, 6, 7].getD t 0

/-- The two tables lie in memory as the program's text lays them. -/
structure Tabs (w : World) (b off c : Nat) : Prop where
  g0 : w.cell? ⟨0, 0, Option.none⟩ = some (.slice (some ⟨b, off, Option.none⟩) 8 c)
  e0 : ∀ j, j < 8 → w.cell? ⟨b, off + j, Option.none⟩ = some (.string (ontW j))
  g1 : ∀ j, j < 6 → w.cell? ⟨1, j, Option.none⟩ = some (.string (accW j))

theorem Tabs.drewN {w : World} {b off c : Nat} (h : Tabs w b off c) (q : Nat) : Tabs (w.drewN q) b off c := ⟨h.g0, h.e0, h.g1⟩

theorem six {t : Nat} (h : t < 6) : t = 0 ∨ t = 1 ∨ t = 2 ∨ t = 3 ∨ t = 4 ∨ t = 5 := by omega

theorem string_at (t : Nat) (ht : t < 6) (s : ByteArray) (w : World) (hc : w.cell? ⟨1, t, Option.none⟩ = some (.string s)) :
    Calls Tryd.prog 8 #[.int .u8 (t : Int)] w fun e w' => e = .returned (.string s) ∧ w' = w := by
  rcases six ht with rfl | rfl | rfl | rfl | rfl | rfl
  all_goals
    go_enter Tryd.func8, Tryd.ntmps8
    go_wp2
    go_ret
    exact ⟨rfl, rfl⟩

set_option maxRecDepth 100000 in
theorem index_at (b off c n i : Nat) (ss : Nat → ByteArray) (x : ByteArray) (w : World) (hn : n ≤ 9223372036854775807) (hi : i < n) (hx : ss i = x) (hno : ∀ j, j < i → (x.toList == (ss j).toList) = false) (hc : ∀ j, j < n → w.cell? ⟨b, off + j, Option.none⟩ = some (.string (ss j))) :
    Calls Tryd.prog 9 #[.slice (some ⟨b, off, Option.none⟩) n c, .string x] w fun e w' => e = .returned (.int .i64 i) ∧ w' = w := by
  have HC := hide hc
  have HN := hide hno
  have HX := hide hx
  clear hc hno hx
  go_enter Tryd.func9, Tryd.ntmps9
  go_wp2
  go_loop [8] (fun v => ∃ k : Nat, k ≤ i ∧ v = .int .i64 k) (fun v => n - (intOf v).toNat)
  case atStart => exact ⟨0, Nat.zero_le _, rfl⟩
  case round =>
    obtain ⟨k, hk, rfl⟩ := hrel
    have hcell := unhide HC k (by omega)
    by_cases hki : k < i
    · have hne := unhide HN k hki
      go_wp2
      go_round
      case rel => exact ⟨k + 1, by omega, by go_num⟩
      case measure => simp [intOf]; omega
    · have : k = i := by omega
      subst this
      rw [unhide HX] at hcell
      have heq : (x.toList == x.toList) = true := by simp
      go_wp2
      go_ret
      exact ⟨rfl, rfl⟩

theorem two_pow {i : Nat} (h : i < 16) : IntKind.u16.wrap (2 ^ i) = 2 ^ i := by
  rw [IntKind.wrap_u16]
  have h1 : (2 : Nat) ^ i ≤ 2 ^ 15 := Nat.pow_le_pow_right (by decide) (by omega)
  have h2 : ((2 : Int) ^ i) = ((2 ^ i : Nat) : Int) := by simp
  rw [h2]
  generalize 2 ^ i = m at h1
  omega

theorem bit_at (b off c n i : Nat) (ss : Nat → ByteArray) (x : ByteArray) (w : World) (hn : n ≤ 9223372036854775807) (hi : i < n) (h16 : i < 16) (hx : ss i = x) (hno : ∀ j, j < i → (x.toList == (ss j).toList) = false) (hc : ∀ j, j < n → w.cell? ⟨b, off + j, Option.none⟩ = some (.string (ss j))) :
    Calls Tryd.prog 7 #[.slice (some ⟨b, off, Option.none⟩) n c, .string x] w fun e w' => e = .returned (.int .u16 (2 ^ i)) ∧ w' = w := by
  have h := index_at b off c n i ss x w hn hi hx hno hc
  have HP := hide (two_pow h16)
  clear hc hno hx
  go_enter Tryd.func7, Tryd.ntmps7
  go_wp2_with (go_at_call 9; refine h.mono ?_; rintro e w' ⟨rfl, rfl⟩)
  go_ret
  exact ⟨congrArg (fun z => Ending.returned (Value.int .u16 z)) (unhide HP), rfl⟩

theorem bt_lt (t : Nat) (ht : t < 6) : bt t < 8 := by
  rcases six ht with rfl | rfl | rfl | rfl | rfl | rfl <;> decide
theorem bt_word (t : Nat) (ht : t < 6) : ontW (bt t) = accW t := by
  rcases six ht with rfl | rfl | rfl | rfl | rfl | rfl <;> rfl
theorem bt_first (t : Nat) (ht : t < 6) : ∀ j, j < bt t → ((accW t).toList == (ontW j).toList) = false := by
  rcases six ht with rfl | rfl | rfl | rfl | rfl | rfl <;> decide +kernel
theorem bt_inj (t u : Nat) (ht : t < 6) (hu : u < 6) (h : bt t = bt u) : t = u := by
  rcases six ht with rfl | rfl | rfl | rfl | rfl | rfl <;> rcases six hu with rfl | rfl | rfl | rfl | rfl | rfl <;> first | rfl | (exfalso; revert h; decide)

theorem secOf_at (t b off c : Nat) (ht : t < 6) (w : World) (hT : Tabs w b off c) :
    Calls Tryd.prog 6 #[.int .u8 (t : Int)] w fun e w' => e = .returned (.int .u16 (2 ^ bt t)) ∧ ∃ q, w' = w.drewN q := by
  have h8 := fun q => string_at t ht (accW t) (w.drewN q) ((hT.drewN q).g1 t ht)
  have h7 := fun q => bit_at b off c 8 (bt t) ontW (accW t) (w.drewN q) (by omega) (bt_lt t ht) (by have := bt_lt t ht; omega) (bt_word t ht) (bt_first t ht) (hT.drewN q).e0
  have hg := hT.g0
  have H8 := hide h8
  have H7 := hide h7
  clear h8 h7 hT
  generalize bt t = i at H7 ⊢
  generalize accW t = s at H7 H8
  go_enter Tryd.func6, Tryd.ntmps6
  go_wp2
  go_quiet ((first | (go_at_call 8; exact Calls.quiet_of_same (unhide H8 _)) | (go_at_call 7; exact Calls.quiet_of_same (unhide H7 _))))
  go_wp2
  go_ret
  exact ⟨rfl, nq, rfl⟩

theorem test_and (s b : Nat) (hs : s < 65536) (hb : b < 16) : (bits .and .u16 (s : Int) (2 ^ b) != 0) = s.testBit b := by
  have h1 : (2 : Nat) ^ b ≤ 2 ^ 15 := Nat.pow_le_pow_right (by decide) (by omega)
  have h2 : ((2 : Int) ^ b) = ((2 ^ b : Nat) : Int) := by simp
  rw [h2, u16_and_nat s (2 ^ b) hs (by omega)]
  rw [Nat.testBit_eq_decide_div_mod_eq, nat_bit]
  have h3 : s / 2 ^ b % 2 = 0 ∨ s / 2 ^ b % 2 = 1 := by omega
  have h4 : 0 < 2 ^ b := Nat.two_pow_pos b
  rcases h3 with h3 | h3
  · simp [h3]
  · rw [h3, Nat.one_mul]
    generalize 2 ^ b = m at h4
    simp
    omega

theorem has_at (s t b off c : Nat) (hs : s < 65536) (ht : t < 6) (w : World) (hT : Tabs w b off c) :
    Calls Tryd.prog 5 #[.int .u16 (s : Int), .int .u8 (t : Int)] w fun e w' => e = .returned (.bool (s.testBit (bt t))) ∧ ∃ q, w' = w.drewN q := by
  have h6 := secOf_at t b off c ht w hT
  have HA := hide (test_and s (bt t) hs (by have := bt_lt t ht; omega))
  clear hT
  generalize bt t = i at h6 HA ⊢
  go_enter Tryd.func5, Tryd.ntmps5
  go_wp2_with (go_at_call 6; refine h6.mono ?_; rintro e w' ⟨rfl, q, rfl⟩)
  go_ret
  exact ⟨congrArg (fun z => Ending.returned (Value.bool z)) (unhide HA), q, rfl⟩

end Go.Proofs.Qxb6614503aDoor
