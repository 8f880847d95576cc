import Derived.Test.YbulkeipwModeF
import Derived.Lib.Builder
namespace Go.Proofs.Ybulkeipw
open Go.RowKit
set_option linter.unusedVariables false

abbrev zero12 : Array Value := #[.pointer none, .pointer none, .pointer none, .pointer none, .pointer none, .pointer none, .pointer none, .pointer none, .pointer none, .pointer none, .pointer none, .nilFunc]
theorem build38 (w : World) : (Instr.build 38 #[]).run Yba.prog w = .ok (.agg zero12) w := run_build w 38 _ _ (by kernel_rfl)

theorem OwnS.set {w : World} {g cap i : Nat} {ss : List ByteArray} {x : ByteArray} (h : OwnS w g cap ss) (hi : i < ss.length) : OwnS (w.setCell ⟨g, i, none⟩ (.string x)) g cap (ss.set i x) := by
  have hrow := h.row
  obtain ⟨cur, hb, h1, h2, h3, h4⟩ := h
  refine ownS_cells (hb.setCell i (.string x)) (by simpa using h1) (by simpa using h2) h3 (fun j hj => ?_)
  have hj' : j < ss.length := by simpa using hj
  by_cases e : i = j
  · subst e
    simp [List.getD, hi, show i < cur.size by omega]
  · have := hrow j hj'
    rw [Nat.zero_add, hb.cell] at this
    rw [Array.getElem?_setIfInBounds, if_neg e, this]
    simp [List.getD, e]
theorem len_none {w : World} {b : Nat} (ty : TypeId) (h : MapF w b (fun _ => none)) : (Builtin.len_ #[44] ty #[.map (some b)]).run Yba.prog w = .ok (.int .i64 0) w := by
  obtain ⟨es, c, L, h1, h2, h3, h4⟩ := h
  have hL : L = [] := by
    cases L with
    | nil => rfl
    | cons p L => have := h4 p.1; simp [look] at this
  subst hL
  have hes : es = #[] := by
    have := congrArg List.length h2
    simp at this
    exact this
  subst hes
  simp [Builtin.len_, run_underlying Yba.underlying44, getObj, Sem.run, h1, goInt]
theorem neq29 (w : World) (m : Nat) : (binOp .neq 29 (ptr m) (ptr m)).run Yba.prog w = .ok (.bool false) w := by
  obtain ⟨q, hq⟩ : ∃ i, Yba.prog.info? 93 = some i := by
    have : (Yba.prog.info? 93).isSome = true := by kernel_rfl
    exact Option.isSome_iff_exists.1 this
  exact Lib.run_neq_ptr_same w ⟨m, 0, none⟩ Yba.underlying29 hq

/-- the bytes of a row -/
def Ints (w : World) (a : Option Addr) (zs : List Int) : Prop := ∀ j, j < zs.length → ∃ g o, a = some ⟨g, o, none⟩ ∧ g < w.heap.size ∧ w.cell? ⟨g, o + j, none⟩ = some (.int .u8 (zs.getD j 0)) ∧ 0 ≤ zs.getD j 0 ∧ zs.getD j 0 ≤ 255
theorem emp_yes {x : ByteArray} (e : x = E0) : x.toList = [] := by subst e; simp [E0]
theorem emp_no {x : ByteArray} (e : x ≠ E0) : ¬ x.toList = [] := fun h => by
  have := str_ne e
  rw [h, emp_yes (rfl : E0 = E0)] at this
  simp at this
theorem makeN (n : Nat) (hn : n ≤ 1000000) (W : World) : (Instr.makeSlice 22 (.int .i64 n) (.int .i64 n)).run Yba.prog W =
    .ok (.slice (some ⟨W.heap.size, 0, none⟩) n n) (W.alloc (.cells (madeCells #[.string E0] n) 9)) := by
  obtain ⟨i0, hi, hz0, hz1, hz2⟩ := info_parts Yba.info9
  have := run_make (P := Yba.prog) W 22 9 i0 (.string E0) Yba.underlying22 hi hz0 .i64 .i64 n n (by omega) (by omega) (by rw [hz2]; omega) (by omega)
  simpa [hz1, Value.cells] using this
theorem ownS_made (W : World) (n : Nat) (hn : n ≤ 1000000) : OwnS (W.alloc (.cells (madeCells #[.string E0] n) 9)) W.heap.size n (List.replicate n E0) := by
  refine ownS_cells (blk_new _ _ _) (size_madeCells _ _) (by simp) (by unfold maxLen; omega) (fun j hj => ?_)
  have hj' : j < n := by simpa using hj
  simp [madeCells, hj', Nat.mod_one, List.getD]
end Go.Proofs.Ybulkeipw
