import Derived.Test.YbulkeiusRows
import Derived.WalkKit
import Derived.WalkSpells
import Derived.ProofKit
import Derived.Below
import Derived.Deep.QuietTactic
import Derived.BigQuiet
import Derived.WalkSmall
namespace Go.Proofs.Ybulkeius
open Go.RowKit
set_option linter.unusedVariables false

/-- a Pair's zero cells -/
def pair0 : Array Value := #[.int .i64 0, .int .i64 0, .string { data := #[] }, .pointer none, .bool false, .int .i64 0, .int .i64 0]
theorem Yba.info35 : (Yba.prog.info? 35).map (fun i => (i.zero, i.size, i.bytes)) = some (some (.agg pair0), 7, 64) := by kernel_rfl
theorem Yba.info27 : (Yba.prog.info? 27).map (fun i => (i.zero, i.size, i.bytes)) = some (some (.pointer none), 1, 8) := by kernel_rfl
/-- a listItem's zero cells -/
def item0 : Value := .agg #[.string { data := #[] }, .pointer none, .int .i64 0]
theorem Yba.info62 : (Yba.prog.info? 62).map (fun i => (i.zero, i.size, i.bytes)) = some (some item0, 3, 32) := by kernel_rfl

theorem make25 (n : Nat) (hn : n ≤ 65536) (W : World) : (Instr.makeSlice 25 (.int .i64 n) (.int .i64 n)).run Yba.prog W =
    .ok (.slice (some ⟨W.heap.size, 0, none⟩) n n) (W.alloc (.cells (madeCells pair0 (n * 7)) 35)) := by
  obtain ⟨i0, hi, hz0, hz1, hz2⟩ := info_parts Yba.info35
  have := run_make (P := Yba.prog) W 25 35 i0 (.agg pair0) Yba.underlying25 hi hz0 .i64 .i64 n n (by omega) (by omega) (by rw [hz2]; omega) (by omega)
  simpa [hz1, Value.cells] using this
theorem make26 (n : Nat) (hn : n ≤ 65536) (W : World) : (Instr.makeSlice 26 (.int .i64 n) (.int .i64 n)).run Yba.prog W =
    .ok (.slice (some ⟨W.heap.size, 0, none⟩) n n) (W.alloc (.cells (madeCells #[.pointer none] n) 27)) := by
  obtain ⟨i0, hi, hz0, hz1, hz2⟩ := info_parts Yba.info27
  have := run_make (P := Yba.prog) W 26 27 i0 (.pointer none) Yba.underlying26 hi hz0 .i64 .i64 n n (by omega) (by omega) (by rw [hz2]; omega) (by omega)
  simpa [hz1, Value.cells] using this
theorem make28 (n : Nat) (hn : n ≤ 65536) (W : World) : (Instr.makeSlice 28 (.int .i64 n) (.int .i64 n)).run Yba.prog W =
    .ok (.slice (some ⟨W.heap.size, 0, none⟩) n n) (W.alloc (.cells (madeCells item0.cells (n * 3)) 62)) := by
  obtain ⟨i0, hi, hz0, hz1, hz2⟩ := info_parts Yba.info62
  have := run_make (P := Yba.prog) W 28 62 i0 item0 Yba.underlying28 hi hz0 .i64 .i64 n n (by omega) (by omega) (by rw [hz2]; omega) (by omega)
  simpa [hz1] using this
end Go.Proofs.Ybulkeius
