import Derived.Test.YbulkeiqkVal
import Derived.Deep.QuietTactic
import Derived.BigQuiet
namespace Go.Proofs.Ybulkeiqk
open Go.ChangeShapes Go.WideShapes Go.ChangeAt Go.RowKit
set_option linter.unusedVariables false

theorem eq8_zero (a0 a1 : Option Addr) (c0 c1 : Nat) (w : World) :
    Calls Yba.prog 8 #[.slice a0 0 c0, .slice a1 0 c1] w fun e w' => e = .returned (.bool true) ∧ ∃ q, w' = w.drewN q := by
  go_enter Yba.func8, Yba.ntmps8
  go_wp2
  refine wp_loop_rounds 1 ?_
  rw [rounds_succ]
  go_wp2
  go_ret
  exact ⟨rfl, 0, rfl⟩

theorem eq8_pos (b0 o0 b1 o1 n c0 c1 : Nat) (zs : List Int) (w : World) (hn : n ≤ 1000000)
    (h0 : ∀ i, i < n → w.cell? ⟨b0, o0 + i, none⟩ = some (.int .u32 (zs.getD i 0))) (h1 : ∀ i, i < n → w.cell? ⟨b1, o1 + i, none⟩ = some (.int .u32 (zs.getD i 0))) :
    Calls Yba.prog 8 #[.slice (some ⟨b0, o0, none⟩) n c0, .slice (some ⟨b1, o1, none⟩) n c1] w fun e w' => e = .returned (.bool true) ∧ ∃ q, w' = w.drewN q := by
  have hne : ((n : Int) != (n : Int)) = false := by simp
  go_enter Yba.func8, Yba.ntmps8
  go_wp2
  go_loopw [13] (fun i wr => ∃ k q : Nat, k ≤ n ∧ i = .int .i64 k ∧ wr = w.drewN q) (fun i _ => n - (intOf i).toNat)
  case atStart => exact ⟨0, 0, by omega, rfl, rfl⟩
  case round =>
    obtain ⟨k, q, hk, rfl, rfl⟩ := hrel
    by_cases hlt : k < n
    · have g0 : w.cell? ⟨b0, o0 + k, none⟩ = some (.int .u32 (zs.getD k 0)) := h0 k hlt
      have g1 : w.cell? ⟨b1, o1 + k, none⟩ = some (.int .u32 (zs.getD k 0)) := h1 k hlt
      have hne2 : (zs.getD k 0 != zs.getD k 0) = false := by simp
      clear h0 h1
      go_wp2
      go_quiet (fail)
      go_wp2
      go_roundw
      case rel => exact ⟨k + 1, q + nq, by omega, by go_num, by simp [World.drewN]⟩
      case measure => simp [intOf]; omega
    · go_wp2
      go_ret
      exact ⟨rfl, q, rfl⟩

/-- slices.Equal at equal contents. -/
theorem eq8_any (a0 a1 : Option Addr) (n c0 c1 : Nat) (zs : List Int) (w : World) (hn : n ≤ 1000000)
    (h0 : 0 < n → ∃ b o, a0 = some ⟨b, o, none⟩ ∧ ∀ i, i < n → w.cell? ⟨b, o + i, none⟩ = some (.int .u32 (zs.getD i 0)))
    (h1 : 0 < n → ∃ b o, a1 = some ⟨b, o, none⟩ ∧ ∀ i, i < n → w.cell? ⟨b, o + i, none⟩ = some (.int .u32 (zs.getD i 0))) :
    Calls Yba.prog 8 #[.slice a0 n c0, .slice a1 n c1] w fun e w' => e = .returned (.bool true) ∧ ∃ q, w' = w.drewN q := by
  by_cases hz : n = 0
  · subst hz; exact eq8_zero a0 a1 c0 c1 w
  obtain ⟨b0, o0, rfl, g0⟩ := h0 (by omega)
  obtain ⟨b1, o1, rfl, g1⟩ := h1 (by omega)
  exact eq8_pos b0 o0 b1 o1 n c0 c1 zs w hn g0 g1

theorem eq9_zero (a0 a1 : Option Addr) (c0 c1 : Nat) (w : World) :
    Calls Yba.prog 9 #[.slice a0 0 c0, .slice a1 0 c1] w fun e w' => e = .returned (.bool true) ∧ ∃ q, w' = w.drewN q := by
  go_enter Yba.func9, Yba.ntmps9
  go_wp2
  refine wp_loop_rounds 1 ?_
  rw [rounds_succ]
  go_wp2
  go_ret
  exact ⟨rfl, 0, rfl⟩

theorem eq9_pos (b0 o0 b1 o1 n c0 c1 : Nat) (zs : List Int) (w : World) (hn : n ≤ 1000000)
    (h0 : ∀ i, i < n → w.cell? ⟨b0, o0 + i, none⟩ = some (.int .i64 (zs.getD i 0))) (h1 : ∀ i, i < n → w.cell? ⟨b1, o1 + i, none⟩ = some (.int .i64 (zs.getD i 0))) :
    Calls Yba.prog 9 #[.slice (some ⟨b0, o0, none⟩) n c0, .slice (some ⟨b1, o1, none⟩) n c1] w fun e w' => e = .returned (.bool true) ∧ ∃ q, w' = w.drewN q := by
  have hne : ((n : Int) != (n : Int)) = false := by simp
  go_enter Yba.func9, Yba.ntmps9
  go_wp2
  go_loopw [13] (fun i wr => ∃ k q : Nat, k ≤ n ∧ i = .int .i64 k ∧ wr = w.drewN q) (fun i _ => n - (intOf i).toNat)
  case atStart => exact ⟨0, 0, by omega, rfl, rfl⟩
  case round =>
    obtain ⟨k, q, hk, rfl, rfl⟩ := hrel
    by_cases hlt : k < n
    · have g0 : w.cell? ⟨b0, o0 + k, none⟩ = some (.int .i64 (zs.getD k 0)) := h0 k hlt
      have g1 : w.cell? ⟨b1, o1 + k, none⟩ = some (.int .i64 (zs.getD k 0)) := h1 k hlt
      have hne2 : (zs.getD k 0 != zs.getD k 0) = false := by simp
      clear h0 h1
      go_wp2
      go_quiet (fail)
      go_wp2
      go_roundw
      case rel => exact ⟨k + 1, q + nq, by omega, by go_num, by simp [World.drewN]⟩
      case measure => simp [intOf]; omega
    · go_wp2
      go_ret
      exact ⟨rfl, q, rfl⟩

/-- slices.Equal at equal contents. -/
theorem eq9_any (a0 a1 : Option Addr) (n c0 c1 : Nat) (zs : List Int) (w : World) (hn : n ≤ 1000000)
    (h0 : 0 < n → ∃ b o, a0 = some ⟨b, o, none⟩ ∧ ∀ i, i < n → w.cell? ⟨b, o + i, none⟩ = some (.int .i64 (zs.getD i 0)))
    (h1 : 0 < n → ∃ b o, a1 = some ⟨b, o, none⟩ ∧ ∀ i, i < n → w.cell? ⟨b, o + i, none⟩ = some (.int .i64 (zs.getD i 0))) :
    Calls Yba.prog 9 #[.slice a0 n c0, .slice a1 n c1] w fun e w' => e = .returned (.bool true) ∧ ∃ q, w' = w.drewN q := by
  by_cases hz : n = 0
  · subst hz; exact eq9_zero a0 a1 c0 c1 w
  obtain ⟨b0, o0, rfl, g0⟩ := h0 (by omega)
  obtain ⟨b1, o1, rfl, g1⟩ := h1 (by omega)
  exact eq9_pos b0 o0 b1 o1 n c0 c1 zs w hn g0 g1

end Go.Proofs.Ybulkeiqk
