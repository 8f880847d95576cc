import Derived.Test.YbulkeiqkRows
import Derived.WalkKit
import Derived.WalkSpells
import Derived.ProofKit
import Derived.OpenShut
import Derived.ShutString
import Derived.ChangeOld
import Derived.Below
namespace Go.Proofs.Ybulkeiqk
open Go.ChangeShapes Go.WideShapes Go.ChangeAt Go.RowKit
set_option linter.unusedVariables false

/-- A slice of integers as it came in. -/
def IsRow (k : IntKind) (w : World) (a : Option Addr) (len cap : Nat) (zs : List Int) : Prop :=
  (a = none ∧ len = 0 ∧ cap = 0 ∧ zs = []) ∨
  ∃ x, a = some x ∧ len ≤ cap ∧ cap ≤ maxLen ∧ zs.length = cap ∧ (∀ i, i < zs.length → w.cell? (x.add i) = some (.int k (zs.getD i 0))) ∧ ∀ n ∈ zs, (Lit.int k n).wf = true

theorem val_none (cap1 : Nat) (a1 : Option Addr) (k : Nat) (w : World) (hk : k ≤ 100000) :
    Calls Yba.prog 4 #[.slice a1 0 cap1, .int .i64 k] w fun e w' => (∃ v : Int, e = .returned (.int .u32 v)) ∧ w' = w := by
  go_enter Yba.func4, Yba.ntmps4
  go_wp2
  go_ret
  exact ⟨⟨_, rfl⟩, rfl⟩

theorem val_some (x : Addr) (len1 cap1 : Nat) (z1 : List Int) (k : Nat) (w : World) (hk : k ≤ 100000) (h0 : 0 < len1) (h1 : len1 ≤ 1048576) (hlc : len1 ≤ z1.length)
   (hc : ∀ i, i < z1.length → w.cell? (x.add i) = some (.int .u32 (z1.getD i 0))) :
    Calls Yba.prog 4 #[.slice (some x) len1 cap1, .int .i64 k] w fun e w' => (∃ v : Int, e = .returned (.int .u32 v)) ∧ w' = w := by
  obtain ⟨b, off, sp⟩ := x
  have hsp : sp = none := by simpa [Addr.add] using World.cell?_spot (hc 0 (by omega))
  subst hsp
  have hc' := hc (k % len1) (by have := Nat.mod_lt k h0; omega)
  rw [Addr.add_lit] at hc'
  have m0 : (0 : Int) ≤ (k : Int) % (len1 : Int) := Int.emod_nonneg _ (by omega)
  have m1 : (k : Int) % (len1 : Int) < (len1 : Int) := Int.emod_lt_of_pos _ (by omega)
  clear hc
  go_enter Yba.func4, Yba.ntmps4
  go_wp2
  go_ret
  exact ⟨⟨_, rfl⟩, rfl⟩

/-- zzs6744cval: some number; nothing is written. -/
theorem val_any {a1 : Option Addr} {len1 cap1 : Nat} {z1 : List Int} {w : World} (w1 : IsRow .u32 w a1 len1 cap1 z1) (h1 : len1 ≤ 1048576) (k : Nat) (hk : k ≤ 100000) :
    Calls Yba.prog 4 #[.slice a1 len1 cap1, .int .i64 k] w fun e w' => (∃ v : Int, e = .returned (.int .u32 v)) ∧ w' = w := by
  by_cases h0 : len1 = 0
  · subst h0; exact val_none cap1 a1 k w hk
  rcases w1 with ⟨_, h, _⟩ | ⟨x, rfl, hl, hm, hz, hc, _⟩
  · exact absurd h h0
  · exact val_some x len1 cap1 z1 k w hk (by omega) h1 (by omega) hc
end Go.Proofs.Ybulkeiqk
