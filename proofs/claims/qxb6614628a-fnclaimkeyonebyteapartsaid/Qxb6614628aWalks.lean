/-
  THE WALKS of hash/fnv's New64a, Write, Sum64, and of lockKey, claimKey.
-/
import Derived.Test.Qxb6614628aRows
import Derived.Test.Qxb6614628aPlain
import Derived.WalkKit
import Derived.WalkSpells
import Derived.Below
import Derived.Laws.IdiomStrings
import Derived.Laws.BitsAllLaws
import Derived.Deep.Heap
namespace Go.Proofs.Qxb6614628a
open Go.RowKit

theorem hide {p : Prop} (h : p) : Hid p := h
theorem unhide {p : Prop} (h : Hid p) : p := h

def seed64 : Nat := 14695981039346656037

theorem new_any (w : World) : Calls Try.prog 13 #[] w fun e w' => e = .returned (.iface 56 (.pointer (some ⟨w.heap.size, 0, Option.none⟩))) ∧ w' = w.alloc (.cells #[.int .u64 (seed64 : Nat)] 55) := by
  go_enter Try.func13, Try.ntmps13
  go_wp2
  go_ret
  exact ⟨rfl, rfl⟩

theorem step_form (s c : Nat) (hs : s < 18446744073709551616) (hc : c < 256) : IntKind.u64.wrap (bits .xor .u64 (s : Int) (c : Int) * 1099511628211) = ((step s c : Nat) : Int) := by
  rw [u64_xor_nat s c hs (by omega), IntKind.wrap_u64]
  unfold step
  simp

set_option maxHeartbeats 400000 in
theorem write_any (H b off len cap : Nat) (h0 : Nat) (c : Nat → Nat) (w : World) (hm : len ≤ 9223372036854775807) (hc : ∀ j, j < len → w.cell? ⟨b, off + j, Option.none⟩ = some (.int .u8 (c j : Int))) (hb : ∀ j, c j < 256)
    (hh0 : h0 < 18446744073709551616) (hh : w.cell? ⟨H, 0, Option.none⟩ = some (.int .u64 h0)) (hf : w.frozen? ⟨H, 0, Option.none⟩ = false) :
    Calls Try.prog 37 #[.pointer (some ⟨H, 0, Option.none⟩), .slice (some ⟨b, off, Option.none⟩) len cap] w fun e w' => e = .returned (.tuple #[.int .i64 len, .nilIface]) ∧ w' = w.setCell ⟨H, 0, Option.none⟩ (.int .u64 (fnv h0 ((List.range len).map c) : Nat)) := by
  have HC := hide hc
  have HB := hide hb
  have HH := hide hh0
  clear hc hb hh0
  go_enter Try.func37, Try.ntmps37
  go_wp2
  go_loop [6, 14] (fun h i => ∃ k : Nat, k ≤ len ∧ i = .int .i64 k ∧ h = .int .u64 (fnv h0 ((List.range k).map c) : Nat)) (fun _ i => len - (intOf i).toNat)
  case atStart => exact ⟨0, Nat.zero_le _, rfl, rfl⟩
  case round =>
    obtain ⟨k, hk, rfl, rfl⟩ := hrel
    by_cases hlt : k < len
    · have hcx := unhide HC k hlt
      have hbx := unhide HB k
      have HL := hide (fnv_lt ((List.range k).map c) h0 (unhide HH))
      have HS : Hid (fnv h0 ((List.range (k + 1)).map c) = step (fnv h0 ((List.range k).map c)) (c k)) := by
        show _ = _
        rw [List.range_succ, List.map_append, List.map_singleton, fnv_snoc]
      generalize fnv h0 ((List.range k).map c) = s at HL HS
      go_wp2
      go_round
      case rel => exact ⟨k + 1, by omega, by go_num, by rw [unhide HS, step_form s (c k) (unhide HL) hbx]⟩
      case measure => simp [intOf]; omega
    · have : len = k := by omega
      subst this
      go_wp2
      go_ret2
      exact ⟨rfl, rfl⟩

theorem sum_any (H h0 : Nat) (w : World) (hh : w.cell? ⟨H, 0, Option.none⟩ = some (.int .u64 h0)) :
    Calls Try.prog 36 #[.pointer (some ⟨H, 0, Option.none⟩)] w fun e w' => e = .returned (.int .u64 h0) ∧ w' = w := by
  go_enter Try.func36, Try.ntmps36
  go_wp2
  go_ret
  exact ⟨rfl, rfl⟩

/-- A string's bytes as numbers. -/
def nums (s : ByteArray) : List Nat := s.data.toList.map UInt8.toNat
theorem nums_length (s : ByteArray) : (nums s).length = s.size := by
  unfold nums
  rw [List.length_map, Array.length_toList]
  rfl
theorem nums_lt (s : ByteArray) : ∀ c ∈ nums s, c < 256 := by
  intro c hc
  obtain ⟨b, _, rfl⟩ := List.mem_map.1 hc
  exact UInt8.toNat_lt b
theorem getD_lt {l : List Nat} (h : ∀ c ∈ l, c < 256) (j : Nat) : l.getD j 0 < 256 := by
  by_cases hj : j < l.length
  · rw [List.getD, List.getElem?_eq_getElem hj]
    exact h _ (List.getElem_mem hj)
  · rw [List.getD, List.getElem?_eq_none (by omega)]
    decide
theorem map_getD (l : List Nat) : (List.range l.length).map (fun j => l.getD j 0) = l := by
  refine List.ext_getElem (by simp) (fun i h1 h2 => ?_)
  rw [List.getElem_map, List.getElem_range, List.getD, List.getElem?_eq_getElem h2]
  rfl

/-- The key: the hash as an int64. -/
def key (l : List Nat) : Int := wrap64 (fnv seed64 l : Nat)

/-- Block b holds the numbers l as bytes; none is frozen. -/
def Bytes (w : World) (b : Nat) (l : List Nat) : Prop := ∀ j, j < l.length → w.cell? ⟨b, j, Option.none⟩ = some (.int .u8 (l.getD j 0 : Nat)) ∧ w.frozen? ⟨b, j, Option.none⟩ = false

theorem row_at (s : ByteArray) (cap j : Nat) (hj : j < s.size) : (bytesRow s cap)[j]? = some (.int .u8 ((nums s).getD j 0 : Nat)) := by
  have hd : j < s.data.size := hj
  unfold bytesRow
  rw [Array.getElem?_append_left (by rw [Array.size_map]; exact hd), Array.getElem?_map, Array.getElem?_eq_getElem hd]
  unfold nums
  rw [List.getD, List.getElem?_map, List.getElem?_eq_getElem (by simpa using hd)]
  simp

theorem row_size (s : ByteArray) (cap : Nat) : s.size ≤ (bytesRow s cap).size := by
  unfold bytesRow
  rw [Array.size_append, Array.size_map]
  exact Nat.le_add_right _ _

theorem bytes_made (w : World) (s : ByteArray) (cap j : Nat) (hj : j < s.size) :
    (w.drew.alloc (.cells (bytesRow s cap) 5 ((bytesRow s cap).size, (bytesRow s cap).size + 1))).cell? ⟨w.heap.size, j, Option.none⟩ = some (.int .u8 ((nums s).getD j 0 : Nat)) ∧
    (w.drew.alloc (.cells (bytesRow s cap) 5 ((bytesRow s cap).size, (bytesRow s cap).size + 1))).frozen? ⟨w.heap.size, j, Option.none⟩ = false := by
  have e : (w.drew.alloc (.cells (bytesRow s cap) 5 ((bytesRow s cap).size, (bytesRow s cap).size + 1))).heap[w.heap.size]? = some (.cells (bytesRow s cap) 5 ((bytesRow s cap).size, (bytesRow s cap).size + 1)) := Go.Deep.blk_alloc_new w.drew _
  have h1 := row_at s cap j hj
  have h2 := row_size s cap
  generalize bytesRow s cap = row at e h1 h2
  constructor
  · unfold World.cell?
    simp only [e]
    exact h1
  · unfold World.frozen?
    simp only [e]
    simp
    omega

/-- '[]byte(s)'. -/
theorem wpList_bytes (w : World) {ops : Array Oper} {rest : List Oper} {o : Oper} {a : Act} {Q : Exit → Act → World → Prop} (hg : o.guard = Option.none) (x : Operand) (hop : o.op = Op.convert 9 30 x) (s : ByteArray) (hx : a.eval x = .string s)
    (hK : ∀ (cap : Nat) (w' : World), Bytes w' w.heap.size (nums s) → Below w.heap.size w w' → w'.heap.size = w.heap.size + 1 → wpList Try.prog ops Q rest (a.put o.dst (.slice (some ⟨w.heap.size, 0, Option.none⟩) s.size cap)) w') :
    wpList Try.prog ops Q (o :: rest) a w := by
  refine wpList_plain hg fun K' hK' => ?_
  have hrun := run_bytes_of_string (P := Try.prog) w 9 30 5 s Try.underlying9 Try.underlying30 Try.underlying5
  unfold Oper.wp
  simp only [execOp, hop, hx, Sem.run_bind, hrun, Result.andThen, Sem.run_pure]
  refine hK' _ _ (hK _ _ ?_ ?_ ?_)
  · intro j hj
    rw [nums_length] at hj
    exact bytes_made w s _ j hj
  · exact (Below.refl _ _).drew.alloc (Nat.le_refl _) _
  · exact Go.Deep.nblk_alloc _ _

theorem method_write (a : Addr) (w : World) : (method 222 56 (.pointer (some a)) "Write").run Try.prog w = .ok (37, .pointer (some a)) w := by kernel_rfl
theorem method_sum (a : Addr) (w : World) : (method 222 56 (.pointer (some a)) "Sum64").run Try.prog w = .ok (36, .pointer (some a)) w := by kernel_rfl

set_option maxRecDepth 100000 in
set_option maxHeartbeats 400000 in
theorem lock_any (s : ByteArray) (w : World) (hs : s.size ≤ maxLen) :
    Calls Try.prog 12 #[.string s] w fun e w' => e = .returned (.int .i64 (key (nums s))) ∧ Below w.heap.size w w' := by
  unfold maxLen at hs
  have hmw := method_write
  have hms := method_sum
  go_enter Try.func12, Try.ntmps12
  go_wp2_with (first | (go_at_call 13; refine (new_any _).mono ?_; rintro e w' ⟨rfl, rfl⟩) | (refine wpList_bytes _ rfl _ rfl s rfl ?_; intro cap w1 hby hbe hsz))
  have hH : w1.cell? ⟨w.heap.size, 0, Option.none⟩ = some (.int .u64 (seed64 : Nat)) := (hbe.cell (p := ⟨w.heap.size, 0, Option.none⟩) (by simp)).trans (by simp)
  have hHf : w1.frozen? ⟨w.heap.size, 0, Option.none⟩ = false := (hbe.frozen (p := ⟨w.heap.size, 0, Option.none⟩) (by simp)).trans (by simp)
  have hby' : Bytes w1 (w.heap.size + 1) (nums s) := by simpa using hby
  have hwr := write_any w.heap.size (w.heap.size + 1) 0 s.size cap seed64 (fun j => (nums s).getD j 0) w1 (by omega) (fun j hj => by rw [Nat.zero_add]; exact (hby' j (by rw [nums_length]; exact hj)).1) (getD_lt (nums_lt s)) (by decide) hH hHf
  have e1 : (List.range s.size).map (fun j => (nums s).getD j 0) = nums s := by
    have := map_getD (nums s)
    rw [nums_length] at this
    exact this
  rw [e1] at hwr
  have HBE : Hid (Below w.heap.size w w1) := ((Below.refl _ _).alloc (Nat.le_refl _) _).trans (hbe.mono (by simp))
  have HW := hide hwr
  clear hwr e1 hby hby' hbe hsz
  refine (unhide HW).mono ?_
  rintro e w2 ⟨rfl, rfl⟩
  have HH : Hid ((w1.setCell ⟨w.heap.size, 0, Option.none⟩ (.int .u64 (fnv seed64 (nums s) : Nat))).cell? ⟨w.heap.size, 0, Option.none⟩ = some (.int .u64 (fnv seed64 (nums s) : Nat))) := World.cell?_setCell_same _ _ _ hH
  have HB2 : Hid (Below w.heap.size w (w1.setCell ⟨w.heap.size, 0, Option.none⟩ (.int .u64 (fnv seed64 (nums s) : Nat)))) := (unhide HBE).setCell (Nat.le_refl _) _
  clear hH hHf HBE HW
  generalize (w1.setCell ⟨w.heap.size, 0, Option.none⟩ (.int .u64 (fnv seed64 (nums s) : Nat))) = w2 at HH HB2 ⊢
  have HK : Hid (key (nums s) = wrap64 (fnv seed64 (nums s) : Nat)) := rfl
  generalize fnv seed64 (nums s) = r at HH HK ⊢
  go_wp2_with (go_at_call 36; refine (sum_any w.heap.size r _ (unhide HH)).mono ?_; rintro e w3 ⟨rfl, rfl⟩)
  go_ret
  exact ⟨by rw [unhide HK]; rfl, unhide HB2⟩

def pre : List Nat := [115, 101, 97, 109, 108, 105, 110, 101, 46, 112, 114, 111, 103, 114, 101, 115, 115, 32]
theorem nums_pre (s : ByteArray) : nums ((⟨#[115, 101, 97, 109, 108, 105, 110, 101, 46, 112, 114, 111, 103, 114, 101, 115, 115, 32]⟩ : ByteArray) ++ s) = pre ++ nums s := by
  unfold nums
  rw [ByteArray.data_append, Array.toList_append, List.map_append]
  rfl
theorem size_pre (s : ByteArray) : ((⟨#[115, 101, 97, 109, 108, 105, 110, 101, 46, 112, 114, 111, 103, 114, 101, 115, 115, 32]⟩ : ByteArray) ++ s).size = 18 + s.size := by
  rw [ByteArray.size_append]
  rfl

set_option maxRecDepth 100000 in
set_option maxHeartbeats 400000 in
theorem claim_any (s : ByteArray) (w : World) (hs : s.size ≤ 1048576) :
    Calls Try.prog 11 #[.string s] w fun e w' => e = .returned (.int .i64 (key (pre ++ nums s))) ∧ Below w.heap.size w w' := by
  have hlk := fun W => lock_any ((⟨#[115, 101, 97, 109, 108, 105, 110, 101, 46, 112, 114, 111, 103, 114, 101, 115, 115, 32]⟩ : ByteArray) ++ s) W (by rw [size_pre]; unfold maxLen; omega)
  rw [nums_pre] at hlk
  have HL := hide hlk
  clear hlk
  generalize key (pre ++ nums s) = r at HL ⊢
  go_enter Try.func11, Try.ntmps11
  go_wp2_with (go_at_call 12; refine (unhide HL _).mono ?_; rintro e w' ⟨rfl, hb⟩)
  go_ret
  exact ⟨rfl, hb⟩

theorem zzClaim_any (s : ByteArray) (w : World) (hs : s.size ≤ 1048576) :
    Calls Try.prog 9 #[.string s] w fun e w' => e = .returned (.int .i64 (key (pre ++ nums s))) ∧ Below w.heap.size w w' := by
  have hlk := fun W => claim_any s W hs
  have HL := hide hlk
  clear hlk
  generalize key (pre ++ nums s) = r at HL ⊢
  go_enter Try.func9, Try.ntmps9
  go_wp2_with (go_at_call 11; refine (unhide HL _).mono ?_; rintro e w' ⟨rfl, hb⟩)
  go_ret
  exact ⟨rfl, hb⟩
end Go.Proofs.Qxb6614628a
