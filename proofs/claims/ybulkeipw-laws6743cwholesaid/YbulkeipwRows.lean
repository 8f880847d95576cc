/-
  No cell of these rows narrows 'for every input' (looked for: loops, veiled, ifaces, maps, wideKeys, modest, calm, conditions, laid).
  DERIVED. THE GIVEN ROWS OF THIS SEAT. 1 by the template 'for every input the law returns true; each argument reads behind the call as it read before'; 0 by the template 'total and deterministic' (their statements: YbulkeipwTotals.lean).
  GIVEN WITH THE SEED: the statements are not yours to turn. If you find one false, say at which input.
  Laid BY PROGRAM, IN A SANDBOX (cutbox-rows.mjs): the forced cells as the released guide's own fill.sh prints them over the translation 36a031d5af226e26… (all of the seat's roots in one cut). By AI agents, Wed Nov 11 2026. No macro, syntax, notation, axiom, sorry.
-/
import Derived.Test.YbulkeipwChecked
import GoSem.Claim
import GoSem.ClaimJoined
import GoSem.ClaimMapViews
import Derived.JoinedTies
import Derived.KernelRfl
namespace Go.Proofs.Ybulkeipw
/- THE CELL 'sum', in the pinned program and in every row, IS THE sha256 OF THE DUMP (.gsa) THAT YbulkeipwProg.lean LOADS. Nothing in Lean hashes anything: it is a label: what it is worth is what the hold of that sum in a sandbox is worth. -/
noncomputable def Yba.pinned : Pinned := { name := "ybulkeipw", sum := "36a031d5af226e269691700f7cb4ed19bf856ce9b93118ec85a0ca9d7b8012d5", checked := Yba.checked }
namespace Rows
def none {H : Type} : Left H := { results := [], args := [] }

/-- 'branchgate.LawS6743CWhole': WHATEVER THE INPUT: true; the input reads as it did. -/
def lawS6743CWholeSpec : ChangeSpec := { name := "lawS6743CWhole", fn := fun _ => fun
  | [d1, d2, d3, d4] => { results := [.lit (.bool true)], args := [d1, d2, d3, d4] }
  | _ => none }
def lawS6743CWholeRow : OpenClaim := { program := "ybulkeipw", sum := "36a031d5af226e269691700f7cb4ed19bf856ce9b93118ec85a0ca9d7b8012d5", func := "example.com/branchgate/branchgate.LawS6743CWhole", spec := "lawS6743CWhole", inPlace := ["maps.clone"], unfollowed := true, recurses := true, plainKeys := false, apart := false }
def LawS6743CWholeSaid : Prop := lawS6743CWholeRow.holds Yba.pinned (OpenSpec.ofChange lawS6743CWholeSpec)

/-- ITS FALSE NEIGHBOUR: 'it returns false'. Refute it at one input. -/
def lawS6743CWholeWrong : ChangeSpec := { name := "lawS6743CWhole", fn := fun _ => fun
  | [d1, d2, d3, d4] => { results := [.lit (.bool false)], args := [d1, d2, d3, d4] }
  | _ => none }
def LawS6743CWholeWrongFalsely : Prop := lawS6743CWholeRow.holds Yba.pinned (OpenSpec.ofChange lawS6743CWholeWrong)

end Rows
end Go.Proofs.Ybulkeipw
