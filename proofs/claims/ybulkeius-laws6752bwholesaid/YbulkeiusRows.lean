/-
  No cell of these rows narrows 'for every input' (looked for: loops, veiled, ifaces, maps, wideKeys, modest, calm, conditions, laid).
  DERIVED. THE GIVEN ROWS OF THIS SEAT. 1 by the template 'for every input the law returns true; each argument reads behind the call as it read before'; 0 by the template 'total and deterministic' (their statements: YbulkeiusTotals.lean).
  GIVEN WITH THE SEED: the statements are not yours to turn. If you find one false, say at which input.
  Laid BY PROGRAM, IN A SANDBOX (cutbox-rows.mjs): the forced cells as the released guide's own fill.sh prints them over the translation e5265451e82d6cf4… (all of the seat's roots in one cut). By AI agents, Wed Nov 11 2026. No macro, syntax, notation, axiom, sorry.
-/
import Derived.Test.YbulkeiusChecked
import GoSem.Claim
import GoSem.ClaimJoined
import GoSem.ClaimMapViews
import Derived.JoinedTies
import Derived.KernelRfl
namespace Go.Proofs.Ybulkeius
/- THE CELL 'sum', in the pinned program and in every row, IS THE sha256 OF THE DUMP (.gsa) THAT YbulkeiusProg.lean LOADS. Nothing in Lean hashes anything: it is a label: what it is worth is what the hold of that sum in a sandbox is worth. -/
noncomputable def Yba.pinned : Pinned := { name := "ybulkeius", sum := "e5265451e82d6cf48010500ca6552a2a9a9633673265c409499ff3d83d89a06d", checked := Yba.checked }
namespace Rows
def none {H : Type} : Left H := { results := [], args := [] }

/-- 'lineitem.LawS6752BWhole': WHATEVER THE INPUT: true; the input reads as it did. -/
def lawS6752BWholeSpec : ChangeSpec := { name := "lawS6752BWhole", fn := fun _ => fun
  | [d1, d2, d3] => { results := [.lit (.bool true)], args := [d1, d2, d3] }
  | _ => none }
def lawS6752BWholeRow : OpenClaim := { program := "ybulkeius", sum := "e5265451e82d6cf48010500ca6552a2a9a9633673265c409499ff3d83d89a06d", func := "example.com/bidcadence/bidcadence/lineitem.LawS6752BWhole", spec := "lawS6752BWhole", apart := false }
def LawS6752BWholeSaid : Prop := lawS6752BWholeRow.holds Yba.pinned (OpenSpec.ofChange lawS6752BWholeSpec)

/-- ITS FALSE NEIGHBOUR: 'it returns false'. Refute it at one input. -/
def lawS6752BWholeWrong : ChangeSpec := { name := "lawS6752BWhole", fn := fun _ => fun
  | [d1, d2, d3] => { results := [.lit (.bool false)], args := [d1, d2, d3] }
  | _ => none }
def LawS6752BWholeWrongFalsely : Prop := lawS6752BWholeRow.holds Yba.pinned (OpenSpec.ofChange lawS6752BWholeWrong)

end Rows
end Go.Proofs.Ybulkeius
