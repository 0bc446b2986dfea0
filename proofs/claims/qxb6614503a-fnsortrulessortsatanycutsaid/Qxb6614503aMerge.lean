/-
  THE WALK of zzMerge.
-/
import Derived.Test.Qxb6614503aKeeps
import Derived.Test.Qxb6614503aMergePlain
namespace Go.Proofs.Qxb6614503a
open Go.RowKit

theorem own_later {wr : World} {B e size n : Nat} {v : Value} {xs : List Value} (h : wr.ownsRow B e size v n xs) (q : Nat) (o : Obj) : ((wr.drewN q).alloc o).ownsRow B e size v n xs :=
  World.ownsRow.alloc (show (wr.drewN q).ownsRow B e size v n xs from h) o

theorem own_next {w1 : World} {B e m m' c : Nat} {a : Option Addr} {xs : List Int} {x : Int} (h : w1.ownsRow B e 1 (.slice a (m + 1) c) (m + 1) (xs.map (Value.int .i64) ++ [.int .i64 x])) (hm : m' = m + 1) : w1.ownsRow B e 1 (.slice a m' c) m' ((xs ++ [x]).map (Value.int .i64)) := by
  subst hm
  rw [List.map_append]
  exact h

theorem grown_later {w wr w1 : World} {q : Nat} {o : Obj} (h : Below w.heap.size w wr) (hg : ((wr.drewN q).alloc o).grownBy w1 (some w.heap.size)) : Below w.heap.size w w1 := by
  have hs := h.size
  refine ((below_draws h q).alloc (by show w.heap.size ≤ wr.heap.size; omega) o).grown hg ?_ (fun k hk => by cases hk; exact Nat.le_refl _)
  have : ((wr.drewN q).alloc o).heap.size = wr.heap.size + 1 := by simp [World.drewN]
  omega

theorem own_cells {wr : World} {B e m c G : Nat} {xs : List Int} (h : wr.ownsRow B e 1 (.slice (some ⟨G, 0, Option.none⟩) m c) m (xs.map (Value.int .i64))) (hl : xs.length = m) : ∀ j, j < m → wr.cell? ⟨G, j, Option.none⟩ = some (.int .i64 (xs.getD j 0)) := by
  intro j hj
  rw [h.cellAt j (by omega), List.getElem?_map, List.getD, List.getElem?_eq_getElem (by omega)]
  rfl

set_option maxRecDepth 100000 in
set_option maxHeartbeats 4000000 in
theorem merge_any (Ra Rb na nb : Nat) (za zb : Nat → Int) (da db : Nat → Nat) (w : World) (hn : na + nb ≤ 65536) (hA : Pol w Ra na za da) (hB : Pol w Rb nb zb db)
    (sa : ∀ i j, i < j → j < na → za (da i) ≤ za (da j)) (sb : ∀ i j, i < j → j < nb → zb (db i) ≤ zb (db j)) :
    Calls Try.prog 9 #[.slice (some ⟨Ra, 0, Option.none⟩) na na, .slice (some ⟨Rb, 0, Option.none⟩) nb nb] w fun e w' => e = .returned (.slice (some ⟨w.heap.size, 0, Option.none⟩) (na + nb) (na + nb)) ∧
      ∃ xs : List Int, MInv (fun i => za (da i)) (fun j => zb (db j)) na nb na nb xs ∧ (∀ j, j < na + nb → w'.cell? ⟨w.heap.size, j, Option.none⟩ = some (.int .i64 (xs.getD j 0))) ∧ Below w.heap.size w w' := by
  obtain ⟨i0, hi, hz0, hz1, hz2⟩ := info_parts info3
  have HA := hide hA
  have HB := hide hB
  have SA := hide sa
  have SB := hide sb
  have hla := hA.lt
  have hlb := hB.lt
  clear hA hB sa sb
  go_enter Try.func9, Try.ntmps9
  go_wp2_with (at_make; refine wpList_make_own _ rfl _ _ 22 rfl w.heap.size 3 i0 (.int .i64 0) 1 Try.underlying22 hi hz0 hz1 _ _ _ (na + nb) rfl rfl (by omega) ?b2 ?b3 (Nat.le_refl _) ?_)
  case b2 => rw [hz2]; omega
  case b3 => unfold maxLen; omega
  intro w0 hown0 hgrow0
  go_wp2
  go_loopw [5, 6, 7] (fun out si sj wr => ∃ (i j : Nat) (xs : List Int), i ≤ na ∧ j ≤ nb ∧ si = .int .i64 i ∧ sj = .int .i64 j ∧ out = .slice (some ⟨w.heap.size, 0, Option.none⟩) (i + j) (na + nb) ∧
      Hid (wr.ownsRow w.heap.size 3 1 (.slice (some ⟨w.heap.size, 0, Option.none⟩) (i + j) (na + nb)) (i + j) (xs.map (Value.int .i64))) ∧ Hid (MInv (fun i => za (da i)) (fun j => zb (db j)) na nb i j xs) ∧ Hid (Below w.heap.size w wr))
    (fun _ si sj _ => (na - (intOf si).toNat) + (nb - (intOf sj).toNat))
  case atStart => exact ⟨0, 0, [], Nat.zero_le _, Nat.zero_le _, rfl, rfl, rfl, hown0, MInv.start _ _ _ _, (Below.refl _ _).grown hgrow0 (Nat.le_refl _) (fun k h => by cases h)⟩
  case round =>
    clear hown0 hgrow0
    obtain ⟨i, j, xs, hia, hjb, rfl, rfl, rfl, HO, HM, HBw⟩ := hrel
    have HAr := hide ((unhide HA).below (unhide HBw) hla)
    have HBr := hide ((unhide HB).below (unhide HBw) hlb)
    by_cases hi' : i < na
    · have ra := ((unhide HAr).rows i hi').1
      have ia := (unhide HAr).idx (da i) ((unhide HAr).inb i hi')
      unfold pt at ra
      have t1 : decide (i < na) = true := by simp; omega
      by_cases hj' : j < nb
      · have rb := ((unhide HBr).rows j hj').1
        have ib := (unhide HBr).idx (db j) ((unhide HBr).inb j hj')
        unfold pt at rb
        have t2 : decide (nb ≤ j) = false := by simp; omega
        by_cases hle : za (da i) ≤ zb (db j)
        · have t3 : decide (za (da i) ≤ zb (db j)) = true := by simp; omega
          go_wp2
          go_quiet ((fail))
          go_wp2_with (at_builtin; refine wpList_append_fits _ rfl (.tmp 51) (.tmp 59) 22 rfl w.heap.size 3 i0 1 Try.underlying22 hi hz1 w.heap.size (i + j) (na + nb) (xs.map (Value.int .i64)) rfl (own_later (unhide HO) nq _) ⟨wr.heap.size, 0, Option.none⟩ 1 1 [.int .i64 (za (da i))] rfl rfl (cell_one_new (wr.drewN nq) _ _) (ints_oneCell .i64 [za (da i)]) (by omega) ?_; intro w1 hown1 hgrow1)
          go_roundw
          case rel =>
            refine ⟨i + 1, j, xs ++ [za (da i)], by omega, by omega, by go_num, rfl, ?_, ?_, ?_, ?_⟩
            · rw [show i + 1 + j = i + j + 1 by omega]
            · exact own_next hown1 (by omega)
            · exact (unhide HM).takeA hi' (unhide SA) (fun _ => hle)
            · exact grown_later (unhide HBw) hgrow1
          case measure => simp [intOf]; omega
        · have t3 : decide (za (da i) ≤ zb (db j)) = false := by simp; omega
          go_wp2
          go_quiet ((fail))
          go_wp2_with (at_builtin; refine wpList_append_fits _ rfl (.tmp 63) (.tmp 71) 22 rfl w.heap.size 3 i0 1 Try.underlying22 hi hz1 w.heap.size (i + j) (na + nb) (xs.map (Value.int .i64)) rfl (own_later (unhide HO) nq _) ⟨wr.heap.size, 0, Option.none⟩ 1 1 [.int .i64 (zb (db j))] rfl rfl (cell_one_new (wr.drewN nq) _ _) (ints_oneCell .i64 [zb (db j)]) (by omega) ?_; intro w1 hown1 hgrow1)
          go_roundw
          case rel =>
            refine ⟨i, j + 1, xs ++ [zb (db j)], by omega, by omega, rfl, by go_num, rfl, ?_, ?_, ?_⟩
            · exact own_next hown1 (by omega)
            · exact (unhide HM).takeB hj' (unhide SB) (fun _ => by show zb (db j) ≤ za (da i); omega)
            · exact grown_later (unhide HBw) hgrow1
          case measure => simp [intOf]; omega
      · have hj2 : nb ≤ j := by omega
        have t2 : decide (nb ≤ j) = true := by simp; omega
        go_wp2
        go_quiet ((fail))
        go_wp2_with (at_builtin; refine wpList_append_fits _ rfl (.tmp 51) (.tmp 59) 22 rfl w.heap.size 3 i0 1 Try.underlying22 hi hz1 w.heap.size (i + j) (na + nb) (xs.map (Value.int .i64)) rfl (own_later (unhide HO) nq _) ⟨wr.heap.size, 0, Option.none⟩ 1 1 [.int .i64 (za (da i))] rfl rfl (cell_one_new (wr.drewN nq) _ _) (ints_oneCell .i64 [za (da i)]) (by omega) ?_; intro w1 hown1 hgrow1)
        go_roundw
        case rel =>
          refine ⟨i + 1, j, xs ++ [za (da i)], by omega, by omega, by go_num, rfl, ?_, ?_, ?_, ?_⟩
          · rw [show i + 1 + j = i + j + 1 by omega]
          · exact own_next hown1 (by omega)
          · exact (unhide HM).takeA hi' (unhide SA) (fun h => absurd h hj')
          · exact grown_later (unhide HBw) hgrow1
        case measure => simp [intOf]; omega
    · have hi2 : na ≤ i := by omega
      have t1 : decide (i < na) = false := by simp; omega
      by_cases hj' : j < nb
      · have rb := ((unhide HBr).rows j hj').1
        have ib := (unhide HBr).idx (db j) ((unhide HBr).inb j hj')
        unfold pt at rb
        have t2 : decide (nb ≤ j) = false := by simp; omega
        go_wp2
        go_quiet ((fail))
        go_wp2_with (at_builtin; refine wpList_append_fits _ rfl (.tmp 63) (.tmp 71) 22 rfl w.heap.size 3 i0 1 Try.underlying22 hi hz1 w.heap.size (i + j) (na + nb) (xs.map (Value.int .i64)) rfl (own_later (unhide HO) nq _) ⟨wr.heap.size, 0, Option.none⟩ 1 1 [.int .i64 (zb (db j))] rfl rfl (cell_one_new (wr.drewN nq) _ _) (ints_oneCell .i64 [zb (db j)]) (by omega) ?_; intro w1 hown1 hgrow1)
        go_roundw
        case rel =>
          refine ⟨i, j + 1, xs ++ [zb (db j)], by omega, by omega, rfl, by go_num, rfl, ?_, ?_, ?_⟩
          · exact own_next hown1 (by omega)
          · exact (unhide HM).takeB hj' (unhide SB) (fun h => absurd h hi')
          · exact grown_later (unhide HBw) hgrow1
        case measure => simp [intOf]; omega
      · have e1 : i = na := by omega
        have e2 : j = nb := by omega
        subst e1 e2
        go_wp2
        go_ret
        exact ⟨rfl, xs, unhide HM, own_cells (unhide HO) (unhide HM).len, unhide HBw⟩
end Go.Proofs.Qxb6614503a
