import Derived.Test.YbulkeiusLists
import Derived.Laws.Pointers
namespace Go.Proofs.Ybulkeius
open Go.RowKit
set_option linter.unusedVariables false

/-- rows of a term that expands nothing -/
theorem rows_neg (T : Nat) (E : Int) (hE : E < 0) (w : World) (h1 : w.cell? ⟨T, 1, none⟩ = some (.int .i64 E)) :
    Calls Yba.prog 4 #[.pointer (some ⟨T, 0, none⟩)] w fun e w' => e = .returned (.int .i64 1) ∧ ∃ q, w' = w.drewN q := by
  have t1 : decide (E < 0) = true := by simp; omega
  go_enter Yba.func4, Yba.ntmps4
  go_wp2
  go_ret
  exact ⟨rfl, 0, rfl⟩

/-- rows of a term that expands pair E's list -/
theorem rows_pos (T B n E L s c : Nat) (a : Option Addr) (hE : E < n) (hn : n ≤ 65536) (hs : s ≤ 65535) (w : World) (h0 : w.cell? ⟨T, 0, none⟩ = some (.slice (some ⟨B, 0, none⟩) n n)) (h1 : w.cell? ⟨T, 1, none⟩ = some (.int .i64 E))
    (h2 : w.cell? ⟨B, E * 7 + 3, none⟩ = some (.pointer (some ⟨L, 0, none⟩))) (h3 : w.cell? ⟨L, 1, none⟩ = some (.slice a s c)) :
    Calls Yba.prog 4 #[.pointer (some ⟨T, 0, none⟩)] w fun e w' => e = .returned (.int .i64 s) ∧ ∃ q, w' = w.drewN q := by
  have t1 : decide ((E : Int) < 0) = false := by simp
  go_enter Yba.func4, Yba.ntmps4
  go_wp2
  go_quiet (fail)
  go_wp2
  go_ret
  exact ⟨rfl, nq, rfl⟩
end Go.Proofs.Ybulkeius
