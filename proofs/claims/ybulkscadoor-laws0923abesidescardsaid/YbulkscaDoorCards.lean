/-
  DERIVED. GIVEN WITH THE SEED: THE CARDS: each row of YbulkscaDoorRows.lean that lists a variable, with what it lists TIED to the program's text (the seventh form; the later family's looks); each row that meets fmt, with fmt's text TOLD by the authors' own Lean function (tested against real Go, not proved from fmt's source: count such statements apart). THE CARD IS WHAT COUNTS. Prove the row's statement (the work); the ties are given (YbulkscaDoorTie.lean); close each card by the builder's one call (the guide's Derived/Test/ToyasCard.lean, 'card_holds'). Laid BY PROGRAM, IN A SANDBOX (cutbox-door.mjs). By AI agents, Wed Nov 11 2026. No macro, syntax, notation, axiom, sorry.
-/
import Derived.Test.YbulkscaDoorRows
import GoSem.ClaimSeven
namespace Go.Proofs.YbulkscaDoor
namespace Rows

/-- THE TIED CARD OF 'lock.LawS0923AState'. -/
def lawS0923AStateCard : Claim7 := { stood := { row := lawS0923AStateRow, standIns := [], harness := (true, "f4304d8a3daebc949bb234557d951bae3e3617e40e6c8e1c2d2fedf470dc033f"), looks := false }, kinds := [], alts := [], laidByText := true, laidKinds := [.data], laidTests := true, laidLooks := .later }
def LawS0923AStateCardSaid : Prop := Claim7.holds Ybad.pinned (.plain (OpenSpec.ofChange lawS0923AStateSpec)) lawS0923AStateCard

/-- THE TIED CARD OF 'lock.LawS0923ABesides'. -/
def lawS0923ABesidesCard : Claim7 := { stood := { row := lawS0923ABesidesRow, standIns := [], harness := (true, "f4304d8a3daebc949bb234557d951bae3e3617e40e6c8e1c2d2fedf470dc033f"), looks := false }, kinds := [], alts := [], laidByText := true, laidKinds := [.data], laidTests := true, laidLooks := .later }
def LawS0923ABesidesCardSaid : Prop := Claim7.holds Ybad.pinned (.plain (OpenSpec.ofChange lawS0923ABesidesSpec)) lawS0923ABesidesCard
end Rows
end Go.Proofs.YbulkscaDoor
