/-
  THE WALK of zzBuildPolicy.
-/
import Derived.Test.Qxb6614503aRows
import Derived.WalkKit
import Derived.WalkSpells
import Derived.Below
import Derived.Deep.OwnRows
namespace Go.Proofs.Qxb6614503a
open Go.RowKit

theorem hide {p : Prop} (h : p) : Hid p := h
theorem unhide {p : Prop} (h : Hid p) : p := h

theorem info43 : (Try.prog.info? 43).map (fun i => (i.zero, i.size, i.bytes)) = some (some (.pointer Option.none), 1, 8) := by kernel_rfl
theorem info3 : (Try.prog.info? 3).map (fun i => (i.zero, i.size, i.bytes)) = some (some (.int .i64 0), 1, 8) := by kernel_rfl
theorem info4 : (Try.prog.info? 4).map (fun i => (i.zero, i.size, i.bytes)) = some (some (.bool false), 1, 1) := by kernel_rfl

/-- A pointer to rule t of those that lie from block B on. -/
def pt (B t : Nat) : Value := .pointer (some ⟨B + t, 0, Option.none⟩)

/-- What zzBuildPolicy has laid after k rounds: the two rows at R and R + 1, the rules from R + 2 on. -/
structure Built (w : World) (R n k : Nat) (z : Nat → Int) : Prop where
  rows : w.rowIs R 43 n (fun j => if j < k then pt (R + 2) j else .pointer Option.none)
  orig : w.rowIs (R + 1) 43 n (fun j => if j < k then pt (R + 2) j else .pointer Option.none)
  idx : ∀ t, t < k → w.cell? ⟨R + 2 + t, 0, Option.none⟩ = some (.int .i64 (z t))
  tag : ∀ t, t < k → w.cell? ⟨R + 2 + t, 3, Option.none⟩ = some (.int .u16 (t : Int))
  size : w.heap.size = R + 2 + k

theorem Built.start (w : World) (n : Nat) (z : Nat → Int) : Built ((w.alloc (.cells (madeCells #[.pointer Option.none] n) 43)).alloc (.cells (madeCells #[.pointer Option.none] n) 43)) w.heap.size n 0 z := by
  refine ⟨?_, ?_, fun t h => absurd h (by omega), fun t h => absurd h (by omega), by simp⟩
  · exact ((World.rowIs_made w (.pointer Option.none) n 43).alloc _).congr (fun i _ => by simp)
  · have h := World.rowIs_made (w.alloc (.cells (madeCells #[.pointer Option.none] n) 43)) (.pointer Option.none) n 43
    have e : (w.alloc (.cells (madeCells #[.pointer Option.none] n) 43)).heap.size = w.heap.size + 1 := by simp
    rw [e] at h
    exact h.congr (fun i _ => by simp)

theorem new_cell (w : World) (c : Array Value) (t : TypeId) (i b : Nat) (v : Value) (h : c[i]? = some v) (hb : w.heap.size = b) : (w.alloc (.cells c t)).cell? ⟨b, i, Option.none⟩ = some v := by
  subst hb
  have e := Go.Deep.blk_alloc_new w (.cells c t)
  unfold World.cell?
  simp only [e]
  exact h

theorem Built.step {w : World} {R n k : Nat} {z : Nat → Int} (h : Built w R n k z) (hk : k < n) (c : Array Value) (hc0 : c[0]? = some (.int .i64 (z k))) (hc3 : c[3]? = some (.int .u16 (k : Int))) :
    Built (((w.setCell ⟨R, k, Option.none⟩ (.pointer (some ⟨w.heap.size, 0, Option.none⟩))).setCell ⟨R + 1, k, Option.none⟩ (.pointer (some ⟨w.heap.size, 0, Option.none⟩))).alloc (.cells c 42)) R n (k + 1) z := by
  have hs := h.size
  have hp : Value.pointer (some ⟨w.heap.size, 0, Option.none⟩) = pt (R + 2) k := by rw [hs]; rfl
  rw [hp]
  have hsz : ((w.setCell ⟨R, k, Option.none⟩ (pt (R + 2) k)).setCell ⟨R + 1, k, Option.none⟩ (pt (R + 2) k)).heap.size = R + 2 + k := by simpa [World.setCell] using hs
  refine ⟨?_, ?_, ?_, ?_, ?_⟩
  · refine (((h.rows.set k (pt (R + 2) k)).setOther (a := ⟨R + 1, k, Option.none⟩) (by simp) _).alloc _).congr (fun j hj => ?_)
    by_cases e : j = k
    · subst e; simp
    · have : (j < k + 1) ↔ (j < k) := by omega
      simp [e, this]
  · refine (((h.orig.setOther (a := ⟨R, k, Option.none⟩) (by simp) _).set k (pt (R + 2) k)).alloc _).congr (fun j hj => ?_)
    by_cases e : j = k
    · subst e; simp
    · have : (j < k + 1) ↔ (j < k) := by omega
      simp [e, this]
  · intro t ht
    by_cases e : t = k
    · subst e
      exact new_cell _ c 42 0 _ _ hc0 hsz
    · rw [World.cell?_alloc_past _ _ _ (by rw [hsz]; show R + 2 + t < R + 2 + k; omega), World.cell?_setCell_other _ _ _ _ (by intro e'; injection e' with e1 e2; omega), World.cell?_setCell_other _ _ _ _ (by intro e'; injection e' with e1 e2; omega)]
      exact h.idx t (by omega)
  · intro t ht
    by_cases e : t = k
    · subst e
      exact new_cell _ c 42 3 _ _ hc3 hsz
    · rw [World.cell?_alloc_past _ _ _ (by rw [hsz]; show R + 2 + t < R + 2 + k; omega), World.cell?_setCell_other _ _ _ _ (by intro e'; injection e' with e1 e2; omega), World.cell?_setCell_other _ _ _ _ (by intro e'; injection e' with e1 e2; omega)]
      exact h.tag t (by omega)
  · simp only [World.alloc, Array.size_push]
    rw [hsz]
    omega

/-- A policy as zzBuildPolicy made it, its row of rules in the order d. -/
structure Pol (w : World) (R n : Nat) (z : Nat → Int) (d : Nat → Nat) : Prop where
  pol : w.cell? ⟨R + 2 + n, 2, Option.none⟩ = some (.slice (some ⟨R, 0, Option.none⟩) n n)
  rows : ∀ j, j < n → w.cell? ⟨R, j, Option.none⟩ = some (pt (R + 2) (d j)) ∧ w.frozen? ⟨R, j, Option.none⟩ = false
  orig : ∀ j, j < n → w.cell? ⟨R + 1, j, Option.none⟩ = some (pt (R + 2) j)
  idx : ∀ t, t < n → w.cell? ⟨R + 2 + t, 0, Option.none⟩ = some (.int .i64 (z t))
  tag : ∀ t, t < n → w.cell? ⟨R + 2 + t, 3, Option.none⟩ = some (.int .u16 (t : Int))
  lt : R + 2 + n < w.heap.size
  perm : ((List.range n).map d).Perm (List.range n)

theorem perm_in {n : Nat} {d : Nat → Nat} (h : ((List.range n).map d).Perm (List.range n)) (j : Nat) (hj : j < n) : d j < n :=
  List.mem_range.1 (h.mem_iff.1 (List.mem_map.2 ⟨j, List.mem_range.2 hj, rfl⟩))

theorem perm_one {n : Nat} {d : Nat → Nat} (h : ((List.range n).map d).Perm (List.range n)) (i j : Nat) (hi : i < n) (hj : j < n) (e : d i = d j) : i = j := by
  have hnd : ((List.range n).map d).Nodup := h.nodup_iff.2 (List.nodup_range (n := n))
  rw [List.nodup_iff_pairwise_ne, List.pairwise_iff_getElem] at hnd
  have hl : ((List.range n).map d).length = n := by simp
  rcases Nat.lt_trichotomy i j with h | h | h
  · exact absurd (by rw [List.getElem_map, List.getElem_map, List.getElem_range, List.getElem_range]; exact e) (hnd i j (by omega) (by omega) h)
  · exact h
  · exact absurd (by rw [List.getElem_map, List.getElem_map, List.getElem_range, List.getElem_range]; exact e.symm) (hnd j i (by omega) (by omega) h)

theorem Pol.inb {w : World} {R n : Nat} {z : Nat → Int} {d : Nat → Nat} (h : Pol w R n z d) (j : Nat) (hj : j < n) : d j < n := perm_in h.perm j hj
theorem Pol.inj {w : World} {R n : Nat} {z : Nat → Int} {d : Nat → Nat} (h : Pol w R n z d) (i j : Nat) (hi : i < n) (hj : j < n) (e : d i = d j) : i = j := perm_one h.perm i j hi hj e

theorem Pol.kept {w w' : World} {R n : Nat} {z : Nat → Int} {d : Nat → Nat} (h : Pol w R n z d) (hs : w.heap.size ≤ w'.heap.size) (hb : ∀ b, R ≤ b → b ≤ R + 2 + n → w'.heap[b]? = w.heap[b]?) : Pol w' R n z d :=
  ⟨(World.cell?_of_block (a := ⟨R + 2 + n, 2, Option.none⟩) (hb _ (by show R ≤ R + 2 + n; omega) (Nat.le_refl _))).trans h.pol,
    fun j hj => ⟨(World.cell?_of_block (a := ⟨R, j, Option.none⟩) (hb _ (Nat.le_refl _) (by show R ≤ R + 2 + n; omega))).trans (h.rows j hj).1, (World.frozen?_of_block (a := ⟨R, j, Option.none⟩) (hb _ (Nat.le_refl _) (by show R ≤ R + 2 + n; omega))).trans (h.rows j hj).2⟩,
    fun j hj => (World.cell?_of_block (a := ⟨R + 1, j, Option.none⟩) (hb _ (by show R ≤ R + 1; omega) (by show R + 1 ≤ R + 2 + n; omega))).trans (h.orig j hj),
    fun t ht => (World.cell?_of_block (a := ⟨R + 2 + t, 0, Option.none⟩) (hb _ (by show R ≤ R + 2 + t; omega) (by show R + 2 + t ≤ R + 2 + n; omega))).trans (h.idx t ht),
    fun t ht => (World.cell?_of_block (a := ⟨R + 2 + t, 3, Option.none⟩) (hb _ (by show R ≤ R + 2 + t; omega) (by show R + 2 + t ≤ R + 2 + n; omega))).trans (h.tag t ht),
    by have := h.lt; omega,
    h.perm⟩

theorem Pol.below {w w' : World} {R n M : Nat} {z : Nat → Int} {d : Nat → Nat} (h : Pol w R n z d) (hb : Below M w w') (hM : R + 2 + n < M) : Pol w' R n z d :=
  h.kept hb.size (fun b _ h2 => hb.block b (by omega))

theorem Built.pol {w : World} {R n : Nat} {z : Nat → Int} (h : Built w R n n z) (c : Array Value) (hc : c[2]? = some (.slice (some ⟨R, 0, Option.none⟩) n n)) : Pol (w.alloc (.cells c 32)) R n z id := by
  have hs := h.size
  refine ⟨?_, ?_, ?_, ?_, ?_, ?_, by simp⟩
  · exact new_cell _ c 32 2 _ _ hc hs
  · intro j hj
    have h1 := (h.rows.alloc (.cells c 32)).cell hj
    have h2 := (h.rows.alloc (.cells c 32)).frozen j
    rw [if_pos hj] at h1
    exact ⟨h1, h2⟩
  · intro j hj
    have h1 := (h.orig.alloc (.cells c 32)).cell hj
    rw [if_pos hj] at h1
    exact h1
  · intro t ht
    rw [World.cell?_alloc_past _ _ _ (by rw [hs]; show R + 2 + t < R + 2 + n; omega)]
    exact h.idx t ht
  · intro t ht
    rw [World.cell?_alloc_past _ _ _ (by rw [hs]; show R + 2 + t < R + 2 + n; omega)]
    exact h.tag t ht
  · simp only [World.alloc, Array.size_push]
    omega

set_option maxRecDepth 100000 in
set_option maxHeartbeats 1000000 in
theorem build_any (n : Nat) (z : Nat → Int) (a0 : Option Addr) (cap0 : Nat) (w : World) (hn : n ≤ 65536)
    (hc : ∀ j, j < n → ∃ b off, a0 = some ⟨b, off, Option.none⟩ ∧ b < w.heap.size ∧ w.cell? ⟨b, off + j, Option.none⟩ = some (.int .i64 (z j))) :
    Calls Try.prog 6 #[.slice a0 n cap0] w fun e w' => e = .returned (.tuple #[.pointer (some ⟨w.heap.size + 2 + n, 0, Option.none⟩), .slice (some ⟨w.heap.size + 1, 0, Option.none⟩) n n]) ∧
      Pol w' w.heap.size n z id ∧ Below w.heap.size w w' ∧ w'.heap.size = w.heap.size + 3 + n := by
  have hmk := fun kl kc => run_make_row' (P := Try.prog) 25 43 (.pointer Option.none) 8 Try.underlying25 info43 rfl kl kc n (by omega) (by omega)
  have HC := hide hc
  clear hc
  go_enter Try.func6, Try.ntmps6
  go_wp2
  go_loopw [6] (fun i wr => ∃ k : Nat, k ≤ n ∧ i = .int .i64 k ∧ Hid (Built wr w.heap.size n k z) ∧ Hid (Below w.heap.size w wr)) (fun i _ => n - (intOf i).toNat)
  case atStart => exact ⟨0, Nat.zero_le _, rfl, Built.start w n z, ((Below.refl _ _).alloc (Nat.le_refl _) _).alloc (by simp) _⟩
  case round =>
    clear hmk
    obtain ⟨k, hk, rfl, HBt, HB⟩ := hrel
    have Hsz := hide (unhide HBt).size
    have hz0 : w.heap.size < wr.heap.size := by have := unhide Hsz; omega
    have hz1 : w.heap.size + 1 < wr.heap.size := by have := unhide Hsz; omega
    by_cases hlt : k < n
    · obtain ⟨b, off, rfl, hb, hcell⟩ := unhide HC k hlt
      have hcx : wr.cell? ⟨b, off + k, Option.none⟩ = some (.int .i64 (z k)) := ((unhide HB).cell (by exact hb)).trans hcell
      have hr := (unhide HBt).rows.cell hlt
      have hrf := (unhide HBt).rows.frozen k
      have ho := (unhide HBt).orig.cell hlt
      have hof := (unhide HBt).orig.frozen k
      clear hcell
      simp only [Nat.lt_irrefl, if_false] at hr ho
      go_wp2
      go_roundw
      case rel => exact ⟨k + 1, by omega, by go_num, (unhide HBt).step hlt _ rfl rfl, (((unhide HB).setCell (Nat.le_refl _) _).setCell (Nat.le_succ _) _).alloc (by simp [World.setCell]; omega) _⟩
      case measure => simp [intOf]; omega
    · have : k = n := by omega
      subst this
      go_wp2
      go_ret2
      refine ⟨?_, (unhide HBt).pol _ rfl, (unhide HB).alloc (by omega) _, ?_⟩
      · show Ending.returned (.tuple #[.pointer (some ⟨wr.heap.size, 0, Option.none⟩), .slice (some ⟨w.heap.size + 1, 0, Option.none⟩) k k]) = _
        rw [unhide Hsz]
      · simp only [World.alloc, Array.size_push]
        rw [unhide Hsz]
        omega
end Go.Proofs.Qxb6614503a
