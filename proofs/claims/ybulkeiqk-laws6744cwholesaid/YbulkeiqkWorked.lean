import Derived.Test.YbulkeiqkClone
namespace Go.Proofs.Ybulkeiqk
open Go.ChangeShapes Go.WideShapes Go.ChangeAt Go.RowKit
set_option linter.unusedVariables false

theorem worked_zero (p : Value) (w : World) :
    Calls Yba.prog 7 #[p, .int .u32 0] w fun e w' => e = .returned (.slice none 0 0) ∧ w' = w := by
  go_enter Yba.func7, Yba.ntmps7
  go_wp2
  go_ret
  exact ⟨rfl, rfl⟩

theorem worked_pos (Q g rn rc A an ac at' c : Nat) (q : Nat) (w : World) (h6 : w.cell? ⟨Q, 6, none⟩ = some (.slice (some ⟨g, 0, none⟩) rn rc)) (h7 : w.cell? ⟨Q, 7, none⟩ = some (.slice (some ⟨A, 0, none⟩) an ac))
    (hq0 : 0 < q) (hq : q < an) (han : an ≤ 5000) (ha : w.cell? ⟨A, q, none⟩ = some (.int .i64 (at' + 1 : Nat))) (hc : w.cell? ⟨g, at', none⟩ = some (.int .u32 c)) (hc7 : c ≤ 7) (hr : at' + 1 + 2 * c ≤ rn) (hrc : rn ≤ rc) (hrn : rn ≤ 100000) :
    Calls Yba.prog 7 #[.pointer (some ⟨Q, 0, none⟩), .int .u32 q] w fun e w' => (∃ ao, e = .returned (.slice ao (2 * c) (rc - (at' + 1))) ∧ (0 < c → ao = some ⟨g, at' + 1, none⟩)) ∧ ∃ n, w' = w.drewN n := by
  have hq' : ((q : Int) == 0) = false := by simp; omega
  go_enter Yba.func7, Yba.ntmps7
  go_wp2
  go_quiet (fail)
  go_wp2
  · go_ret
    exact ⟨⟨_, rfl, fun h => by omega⟩, nq, rfl⟩
  · go_ret
    exact ⟨⟨_, rfl, fun _ => rfl⟩, nq, rfl⟩
end Go.Proofs.Ybulkeiqk
