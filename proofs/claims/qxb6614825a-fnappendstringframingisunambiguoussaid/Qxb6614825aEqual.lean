/-
  THE WALK of zzBytesEqual.
-/
import Derived.Test.Qxb6614825aBack
namespace Go.Proofs.Qxb6614825a
open Go.RowKit
open Go.Lib (uvarint uvarint_small uvarint_big byteCells)

set_option maxRecDepth 100000 in
theorem equal_short (v1 v2 : Option Addr) (n1 n2 c1 c2 : Nat) (w : World) (hne : n1 ≠ n2) :
    Calls Try.prog 11 #[.slice v1 n1 c1, .slice v2 n2 c2] w fun e w' => e = .returned (.bool false) ∧ ∃ q, w' = w.drewN q := by
  have hd : ((n1 : Int) != (n2 : Int)) = true := by simp; omega
  go_enter Try.func11, Try.ntmps11
  go_wp2
  go_ret
  exact ⟨rfl, 0, rfl⟩

theorem first_diff : ∀ (l1 l2 : List UInt8), l1.length = l2.length → l1 ≠ l2 → ∃ d, ∃ h1 : d < l1.length, ∃ h2 : d < l2.length, l1[d] ≠ l2[d] ∧ ∀ j (hj : j < d), l1[j] = l2[j] := by
  intro l1
  induction l1 with
  | nil =>
    intro l2 h hne
    cases l2 with
    | nil => exact absurd rfl hne
    | cons b r => simp at h
  | cons a r ih =>
    intro l2 h hne
    cases l2 with
    | nil => simp at h
    | cons b r2 =>
      by_cases e : a = b
      · subst e
        obtain ⟨d, h1, h2, hd, hj⟩ := ih r2 (by simpa using h) (fun e => hne (by rw [e]))
        refine ⟨d + 1, by simp; omega, by simp; omega, by simpa using hd, ?_⟩
        intro j hjd
        cases j with
        | zero => rfl
        | succ j => simpa using hj j (by omega)
      · exact ⟨0, by simp, by simp, by simpa using e, fun j hj => by omega⟩

set_option maxRecDepth 100000 in
set_option maxHeartbeats 1000000 in
theorem equal_same (g1 g2 n c1 c2 : Nat) (l : List UInt8) (w : World) (hn : n ≤ 8388608) (hl : l.length = n) (h1 : Cells w g1 l) (h2 : Cells w g2 l) :
    Calls Try.prog 11 #[.slice (some ⟨g1, 0, Option.none⟩) n c1, .slice (some ⟨g2, 0, Option.none⟩) n c2] w fun e w' => e = .returned (.bool true) ∧ ∃ q, w' = w.drewN q := by
  have H1 := hide h1
  have H2 := hide h2
  have HL := hide hl
  clear h1 h2 hl
  go_enter Try.func11, Try.ntmps11
  go_wp2
  go_loopw [5] (fun i wr => ∃ k q : Nat, k ≤ n ∧ i = .int .i64 k ∧ wr = w.drewN q) (fun i _ => n - (RowKit.intOf i).toNat)
  case atStart => exact ⟨0, 0, Nat.zero_le _, rfl, rfl⟩
  case round =>
    obtain ⟨k, q, hk, rfl, rfl⟩ := hrel
    by_cases hlt : k < n
    · have hkl : k < l.length := by have := unhide HL; omega
      have hx1 := unhide H1 k hkl
      have hx2 := unhide H2 k hkl
      generalize (l[k]).toNat = c at hx1 hx2
      go_wp2
      go_quiet ((fail))
      go_wp2
      go_roundw
      case rel => exact ⟨k + 1, _, by omega, by go_num, rfl⟩
      case measure => simp [RowKit.intOf]; omega
    · go_wp2
      go_ret
      exact ⟨rfl, q, rfl⟩

set_option maxRecDepth 100000 in
set_option maxHeartbeats 1000000 in
theorem equal_apart (g1 g2 n c1 c2 d : Nat) (l1 l2 : List UInt8) (w : World) (hn : n ≤ 8388608) (hl1 : l1.length = n) (hl2 : l2.length = n) (hd1 : d < l1.length) (hd2 : d < l2.length) (hne : l1[d] ≠ l2[d]) (heq : ∀ j (hj : j < d), l1[j] = l2[j]) (h1 : Cells w g1 l1) (h2 : Cells w g2 l2) :
    Calls Try.prog 11 #[.slice (some ⟨g1, 0, Option.none⟩) n c1, .slice (some ⟨g2, 0, Option.none⟩) n c2] w fun e w' => e = .returned (.bool false) ∧ ∃ q, w' = w.drewN q := by
  have hdn : d < n := by omega
  have HD1 : Hid (w.cell? ⟨g1, d, Option.none⟩ = some (.int .u8 ((l1[d]).toNat : Int))) := h1 d hd1
  have HD2 : Hid (w.cell? ⟨g2, d, Option.none⟩ = some (.int .u8 ((l2[d]).toNat : Int))) := h2 d hd2
  have HJ : Hid (∀ j, j < d → ∃ c : Nat, w.cell? ⟨g1, j, Option.none⟩ = some (.int .u8 (c : Int)) ∧ w.cell? ⟨g2, j, Option.none⟩ = some (.int .u8 (c : Int))) := fun j hj => by
    have e := h2 j (by omega)
    rw [← heq j hj] at e
    exact ⟨_, h1 j (by omega), e⟩
  have hne' : (l1[d]).toNat ≠ (l2[d]).toNat := fun e => hne (UInt8.toNat_inj.1 e)
  generalize (l1[d]).toNat = x1 at HD1 hne'
  generalize (l2[d]).toNat = x2 at HD2 hne'
  have hx : ((x1 : Int) != (x2 : Int)) = true := by simp; omega
  clear h1 h2 heq hne hl1 hl2 hne' hd1 hd2
  go_enter Try.func11, Try.ntmps11
  go_wp2
  go_loopw [5] (fun i wr => ∃ k q : Nat, k ≤ d ∧ i = .int .i64 k ∧ wr = w.drewN q) (fun i _ => n - (RowKit.intOf i).toNat)
  case atStart => exact ⟨0, 0, Nat.zero_le _, rfl, rfl⟩
  case round =>
    obtain ⟨k, q, hk, rfl, rfl⟩ := hrel
    by_cases hlt : k < d
    · obtain ⟨c, hx1, hx2⟩ := unhide HJ k hlt
      go_wp2
      go_quiet ((fail))
      go_wp2
      go_roundw
      case rel => exact ⟨k + 1, _, by omega, by go_num, rfl⟩
      case measure => simp [RowKit.intOf]; omega
    · have : d = k := by omega
      subst this
      have hx1 := unhide HD1
      have hx2 := unhide HD2
      go_wp2
      go_quiet ((fail))
      go_wp2
      go_ret
      exact ⟨rfl, _, World.drewN_drewN ..⟩

theorem equal_any (g1 g2 c1 c2 : Nat) (l1 l2 : List UInt8) (w : World) (hn : l1.length ≤ 8388608) (h1 : Cells w g1 l1) (h2 : Cells w g2 l2) :
    Calls Try.prog 11 #[.slice (some ⟨g1, 0, Option.none⟩) l1.length c1, .slice (some ⟨g2, 0, Option.none⟩) l2.length c2] w fun e w' => e = .returned (.bool (decide (l1 = l2))) ∧ ∃ q, w' = w.drewN q := by
  by_cases e : l1 = l2
  · subst e
    rw [decide_eq_true rfl]
    exact equal_same g1 g2 _ c1 c2 l1 w hn rfl h1 h2
  · rw [decide_eq_false e]
    by_cases el : l1.length = l2.length
    · obtain ⟨d, hd1, hd2, hne, hj⟩ := first_diff l1 l2 el e
      rw [← el]
      exact equal_apart g1 g2 _ c1 c2 d l1 l2 w hn rfl el.symm hd1 hd2 hne (fun j h => hj j h) h1 h2
    · exact equal_short _ _ _ _ _ _ _ el
end Go.Proofs.Qxb6614825a
