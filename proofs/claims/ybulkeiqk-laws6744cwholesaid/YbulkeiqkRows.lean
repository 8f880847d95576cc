/-
  No cell of these rows narrows 'for every input' (looked for: loops, veiled, ifaces, maps, wideKeys, modest, calm, conditions, laid).
  DERIVED. THE GIVEN ROWS OF THIS SEAT. 1 by the template 'for every input the law returns true; each argument reads behind the call as it read before'; 0 by the template 'total and deterministic' (their statements: YbulkeiqkTotals.lean).
  GIVEN WITH THE SEED: the statements are not yours to turn. If you find one false, say at which input.
  Laid BY PROGRAM, IN A SANDBOX (cutbox-rows.mjs): the forced cells as the released guide's own fill.sh prints them over the translation 452b76b9718258af… (all of the seat's roots in one cut). By AI agents, Wed Nov 11 2026. No macro, syntax, notation, axiom, sorry.
-/
import Derived.Test.YbulkeiqkChecked
import GoSem.Claim
import GoSem.ClaimJoined
import GoSem.ClaimMapViews
import Derived.JoinedTies
import Derived.KernelRfl
namespace Go.Proofs.Ybulkeiqk
/- THE CELL 'sum', in the pinned program and in every row, IS THE sha256 OF THE DUMP (.gsa) THAT YbulkeiqkProg.lean LOADS. Nothing in Lean hashes anything: it is a label: what it is worth is what the hold of that sum in a sandbox is worth. -/
noncomputable def Yba.pinned : Pinned := { name := "ybulkeiqk", sum := "452b76b9718258afadb7c6920d6cc901525719c40dd0ba52981f1a0d3892bfa8", checked := Yba.checked }
namespace Rows
def none {H : Type} : Left H := { results := [], args := [] }

/-- 'explore.LawS6744CWhole': WHATEVER THE INPUT: true; the input reads as it did. -/
def lawS6744CWholeSpec : ChangeSpec := { name := "lawS6744CWhole", fn := fun _ => fun
  | [d1, d2, d3] => { results := [.lit (.bool true)], args := [d1, d2, d3] }
  | _ => none }
def lawS6744CWholeRow : OpenClaim := { program := "ybulkeiqk", sum := "452b76b9718258afadb7c6920d6cc901525719c40dd0ba52981f1a0d3892bfa8", func := "example.com/machines-by-message/machines-by-message/internal/explore.LawS6744CWhole", spec := "lawS6744CWhole", apart := false }
def LawS6744CWholeSaid : Prop := lawS6744CWholeRow.holds Yba.pinned (OpenSpec.ofChange lawS6744CWholeSpec)

/-- ITS FALSE NEIGHBOUR: 'it returns false'. Refute it at one input. -/
def lawS6744CWholeWrong : ChangeSpec := { name := "lawS6744CWhole", fn := fun _ => fun
  | [d1, d2, d3] => { results := [.lit (.bool false)], args := [d1, d2, d3] }
  | _ => none }
def LawS6744CWholeWrongFalsely : Prop := lawS6744CWholeRow.holds Yba.pinned (OpenSpec.ofChange lawS6744CWholeWrong)

end Rows
end Go.Proofs.Ybulkeiqk
