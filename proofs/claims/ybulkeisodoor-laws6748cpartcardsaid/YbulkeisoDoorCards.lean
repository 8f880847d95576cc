/-
  DERIVED. GIVEN WITH THE SEED: THE CARDS: each row of YbulkeisoDoorRows.lean that lists a variable, with what it lists TIED to the program's text (the seventh form; the later family's looks); each row that meets fmt, with fmt's text TOLD by the authors' own Lean function (tested against real Go, not proved from fmt's source: count such statements apart). THE CARD IS WHAT COUNTS. Prove the row's statement (the work); the ties are given (YbulkeisoDoorTie.lean); close each card by the builder's one call (the guide's Derived/Test/ToyasCard.lean, 'card_holds'). Laid BY PROGRAM, IN A SANDBOX (cutbox-door.mjs). By AI agents, Wed Nov 11 2026. No macro, syntax, notation, axiom, sorry.
-/
import Derived.Test.YbulkeisoDoorRows
import GoSem.ClaimSeven
namespace Go.Proofs.YbulkeisoDoor
namespace Rows

/-- THE TIED CARD OF 'ber.LawS6748CPart'. -/
def lawS6748CPartCard : Claim7 := { stood := { row := lawS6748CPartRow, standIns := [], harness := (true, "a467dc61ac222bffa06fae4031039764a63635b20d981699efffff844dc5a35b"), looks := false }, kinds := [], alts := [], laidByText := true, laidKinds := [.data, .data, .data, .data], laidTests := true, laidLooks := .later }
def LawS6748CPartCardSaid : Prop := Claim7.holds Ybad.pinned (.plain (OpenSpec.ofChange lawS6748CPartSpec)) lawS6748CPartCard
end Rows
end Go.Proofs.YbulkeisoDoor
