/-
  FROM THE ROW's LISTED VARIABLES TO THE TWO TABLES IN MEMORY.
-/
import Derived.Test.Qxb6614503aDoorBitOf
import Derived.ProofKit
import Derived.LaidMore
import Derived.OpenShut
import Derived.SliceStrings
import Derived.Stop.Joined
namespace Go.Proofs.Qxb6614503aDoor
open Go.ChangeShapes Go.WideShapes Go.ChangeAt Go.RowKit

theorem bytes_of {s : ByteArray} {l : List UInt8} (h : s.data.toList = l) : s = ⟨l.toArray⟩ := by
  obtain ⟨⟨d⟩⟩ := s
  simp at h
  subst h
  rfl

theorem acc_agg {H : Type} : (Rows.laid_example_com_lens_on_exports_lens_on_exports_internal_access_secWords : DataW H) = .agg (accL.map fun l => .lit (.string l)) := rfl
theorem ont_slice {H : Type} : (Rows.laid_example_com_lens_on_exports_lens_on_exports_internal_ontap_secWords : DataW H) = .slice (ontL.map fun l => .lit (.string l)) [] := rfl

theorem strs_inj {H : Type} : ∀ (ss : List ByteArray) (l : List (List UInt8)), (strs ss : List (DataW H)) = l.map (fun x => .lit (.string x)) → ss = l.map fun x => ⟨x.toArray⟩
  | [], [], _ => rfl
  | [], _ :: _, h => by simp [strs] at h
  | _ :: _, [], h => by simp [strs] at h
  | s :: ss, x :: l, h => by
    simp [strs] at h
    have ih := strs_inj (H := H) ss l (by simpa [strs] using h.2)
    rw [ih, bytes_of h.1]
    rfl

theorem of_laid {W : World} (h : laidMetH Tryd.prog Rows.fnHasReadsOneBitOfItsOwnRow.laid W) : ∃ b off c, Tabs W b off c := by
  rw [MakeChecks.laidMetH_plain _ _ _ (by kernel_rfl)] at h
  obtain ⟨ps, ⟨g0, t0, cs0, f0, p0, q0, hg0, ht0, hv0, hd0, ⟨g1, t1, cs1, f1, p1, q1, hg1, ht1, hv1, hd1, _, _⟩, _⟩, _, _⟩ := h
  obtain rfl : g0 = 1 := Option.some.inj (hg0.symm.trans (by kernel_rfl))
  obtain rfl : g1 = 0 := Option.some.inj (hg1.symm.trans (by kernel_rfl))
  obtain rfl : t0 = 35 := Option.some.inj (ht0.symm.trans (by kernel_rfl))
  obtain rfl : t1 = 31 := Option.some.inj (ht1.symm.trans (by kernel_rfl))
  have c9 : Tryd.prog.cellsOf 9 = 1 := by kernel_rfl
  have c35 : Tryd.prog.cellsOf 35 = 6 := by kernel_rfl
  rw [acc_agg] at hd0
  rw [ont_slice] at hd1
  have hG1 : ∀ j, j < 6 → W.cell? ⟨1, j, Option.none⟩ = some (.string (accW j)) := by
    obtain ⟨xs, m1, rfl, hx1, hlen, hn6, hel⟩ := DataW.trod_array Tryd.underlying35 hd0
    simp only [Prod.mk.injEq, DataW.agg.injEq] at hx1
    intro j hj
    have hj' := hel j hj
    have hxj : j < xs.length := by omega
    rw [List.getElem?_eq_getElem hxj] at hj'
    obtain ⟨s, e1, e2, _⟩ := DataW.trod_string Tryd.underlying9 hj'
    have e3 : (xs.map (·.1))[j]? = some (.lit (.string s.data.toList)) := by
      rw [List.getElem?_map, List.getElem?_eq_getElem hxj, e2]
      rfl
    rw [← hx1.1, List.getElem?_map] at e3
    have hja : j < accL.length := hj
    rw [List.getElem?_eq_getElem hja] at e3
    simp at e3
    have e4 : s = accW j := by
      rw [bytes_of e3.symm]
      unfold accW
      rw [List.getD, List.getElem?_eq_getElem hja]
      rfl
    rw [c9, Nat.mul_one] at e1
    have hv := World.var?_cell hg0 hv0 j
    rw [hv]
    have hjc : j < cs0.toList.length := by rw [hlen, c35]; exact hj
    have e5 : cs0.toList[j] = .string s := by
      rw [List.drop_eq_getElem_cons hjc] at e1
      simpa using e1
    have e6 : cs0[j]? = some (.string s) := by
      rw [← Array.getElem?_toList, List.getElem?_eq_getElem hjc, e5]
    rw [e6, e4]
  rcases open_strings Tryd.underlying31 Tryd.underlying9 c9 hd1 with ⟨_, hx⟩ | ⟨a, len, cap, ss, hcs, _, hl, hm, hz, hx, hcell, _⟩
  · simp at hx
  simp only [Prod.mk.injEq, DataW.slice.injEq] at hx
  obtain ⟨⟨hx1, hx2⟩, _⟩ := hx
  have hss := strs_inj _ _ hx1.symm
  have hdrop : ss.drop len = [] := by
    cases hd : ss.drop len with
    | nil => rfl
    | cons s r => rw [hd] at hx2; simp [strs] at hx2
  have hss' : ss = ontL.map fun x => ⟨x.toArray⟩ := by
    rw [← List.take_append_drop len ss, hdrop, List.append_nil, hss]
  have hlen8 : len = 8 := by
    have h1 : (ss.take len).length = 8 := by rw [hss]; rfl
    have h2 : ss.length = 8 := by rw [hss']; rfl
    have h3 : (ss.drop len).length = 0 := by rw [hdrop]; rfl
    have h4 : len ≤ ss.length := by split at hz <;> omega
    simp at h1 h3
    omega
  subst hlen8
  have hsl : ss.length = 8 := by rw [hss']; rfl
  obtain ⟨b, off, spot⟩ := a
  have hspot : spot = Option.none := by simpa [Addr.add] using World.cell?_spot (hcell 0 (by omega))
  subst hspot
  refine ⟨b, off, cap, ?_, ?_, hG1⟩
  · have := World.var?_cell hg1 hv1 0
    rw [Array.eq_one_of_toList hcs] at this
    simpa using this
  · intro j hj
    have h1 := hcell j (by omega)
    rw [Go.WideShapes.add_plain] at h1
    rw [h1]
    congr 2
    rw [hss']
    unfold ontW
    have hjo : j < ontL.length := hj
    rw [List.getD, List.getElem?_map, List.getElem?_eq_getElem hjo, List.getD, List.getElem?_eq_getElem hjo]
    rfl
end Go.Proofs.Qxb6614503aDoor
