/-
  WHAT THE LISTED TABLE GIVES THE WALKS.
-/
import Derived.Test.YbulkeisoDoorWalkB
import Derived.ProofKit
import Derived.LaidMore
import Derived.OpenShut
import Derived.Stop.Joined
namespace Go.Proofs.YbulkeisoDoor
open Go.ChangeShapes Go.WideShapes Go.ChangeAt Go.RowKit

theorem own : ownKnob Ybad.prog.godebug = none := by kernel_rfl
theorem laidOut : laidOutB Ybad.prog = true := by kernel_rfl
/-- the table's name in the dump -/
def uName : String := Rows.lawS6748CPartSpec.vars.headD ""
theorem gU : Ybad.prog.globalNamed uName = some 0 := by kernel_rfl
theorem tU : (Ybad.prog.globals[0]?).map (·.type) = some 34 := by kernel_rfl
theorem cells34 : Ybad.prog.cellsOf 34 = 62 := by kernel_rfl
theorem cells33 : Ybad.prog.cellsOf 33 = 2 := by kernel_rfl
theorem cells9 : Ybad.prog.cellsOf 9 = 1 := by kernel_rfl
theorem cells30 : Ybad.prog.cellsOf 30 = 1 := by kernel_rfl

theorem at_of_take {l : List Value} {i k : Nat} {v : Value} (hk : k < 2) (h : (((l.drop (i * 2)).take 2).drop k).take 1 = [v]) : l[i * 2 + k]? = some v := by
  have e := congrArg (fun x => x[0]?) h
  simpa [hk] using e

/-- one row of the table: its name and its form -/
theorem row_of {W : World} {fuel : Nat} {cs : List Value} {i : Nat} {x : DataW Unit × List MemPlace} {nm : List UInt8} {fm : Int}
    (h : DataW.trod (fun _ => ()) Ybad.prog W 0 (fun _ => true) false fuel 33 ((cs.drop (i * 2)).take 2) = some x) (hx : x.1 = .agg [.lit (.string nm), .lit (.int .u8 fm)]) :
    cs[i * 2]? = some (.string ⟨nm.toArray⟩) ∧ cs[i * 2 + 1]? = some (.int .u8 fm) := by
  obtain ⟨y0, y1, n, rfl, hl, e0, e1⟩ := trod_struct2 Ybad.underlying33 h
  simp only [DataW.agg.injEq, List.cons.injEq, and_true] at hx
  obtain ⟨h0, h1⟩ := hx
  obtain ⟨s, c0, rfl, _⟩ := DataW.trod_string Ybad.underlying9 e0
  obtain ⟨k, c1, rfl, _⟩ := DataW.trod_int Ybad.underlying30 e1
  simp only [DataW.lit.injEq, Lit.string.injEq] at h0
  simp only [DataW.lit.injEq, Lit.int.injEq, true_and] at h1
  subst h1
  refine ⟨?_, at_of_take (by omega) (by simpa [cells30] using c1)⟩
  have := at_of_take (k := 0) (by omega) (by simpa [cells9] using c0)
  rw [Nat.add_zero] at this
  rw [this, ← h0]

theorem of_laid {W : World} (h : laidMetH Ybad.prog Rows.lawS6748CPartRow.laid W) : Tab W := by
  rw [MakeChecks.laidMetH_plain _ _ _ (by kernel_rfl)] at h
  obtain ⟨ps, ⟨g0, t0, cs0, f0, p0, q0, hg0, ht0, hv0, hd0, ⟨g1, t1, cs1, f1, p1, q1, hg1, ht1, hv1, hd1, ⟨g2, t2, cs2, f2, p2, q2, hg2, ht2, hv2, hd2, ⟨g3, t3, cs3, f3, p3, q3, hg3, ht3, hv3, hd3, _, _⟩, _⟩, _⟩, _⟩, _, _⟩ := h
  clear hd0 hd1 hd2 hv0 hv1 hv2 hg0 hg1 hg2 ht0 ht1 ht2
  obtain rfl := Option.some.inj (gU.symm.trans hg3)
  obtain rfl := Option.some.inj (tU.symm.trans ht3)
  obtain ⟨xs, m, rfl, hx, hlen, hn, hel⟩ := DataW.trod_array Ybad.underlying34 hd3
  rw [cells33] at hel
  simp only [Prod.mk.injEq] at hx
  have hx1 := hx.1
  unfold Rows.laid_example_com_sealfold_sealfold_ber_universal at hx1
  simp only [DataW.agg.injEq] at hx1
  have cell : ∀ i, W.cell? ⟨0, i, none⟩ = cs3[i]? := fun i => World.var?_cell hg3 hv3 i
  obtain ⟨x0, hx0⟩ : ∃ x, xs[0]? = some x := ⟨_, List.getElem?_eq_getElem (by omega)⟩
  obtain ⟨x1, hx1'⟩ : ∃ x, xs[1]? = some x := ⟨_, List.getElem?_eq_getElem (by omega)⟩
  have d0 := congrArg (fun l => l[0]?) hx1
  have d1 := congrArg (fun l => l[1]?) hx1
  simp only [List.getElem?_map, hx0, hx1', List.getElem?_cons_zero, List.getElem?_cons_succ, Option.map_some, Option.some.injEq] at d0 d1
  obtain ⟨a0, a1⟩ := row_of (i := 0) (by rw [← hx0]; exact hel 0 (by decide)) d0.symm
  obtain ⟨b0, b1⟩ := row_of (i := 1) (by rw [← hx1']; exact hel 1 (by decide)) d1.symm
  simp only [Array.getElem?_toList] at a0 a1 b0 b1
  have c0 : W.cell? ⟨0, 0, none⟩ = some (.string { data := #[69, 79, 67] }) := by rw [cell]; exact a0
  refine ⟨c0, ?_, ?_, ?_, World.block_lt_of_cell? _ _ c0⟩
  · rw [cell]; exact a1
  · rw [cell]; exact b0
  · rw [cell]; exact b1
end Go.Proofs.YbulkeisoDoor
