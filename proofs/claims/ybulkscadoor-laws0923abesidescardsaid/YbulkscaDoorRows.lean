/-
  NARROWER THAN 'FOR EVERY INPUT', by the rows' own cells (each row's printed sentence says how): LawS0923AState: laid · LawS0923ABesides: laid.
  DERIVED. THE GIVEN ROWS OF THIS SEAT. 2 by the template 'for every input the law returns true; each argument reads behind the call as it read before'; 0 by the template 'total and deterministic' (their statements: YbulkscaDoorTotals.lean).
  GIVEN WITH THE SEED: the statements are not yours to turn. If you find one false, say at which input.
  Laid BY PROGRAM, IN A SANDBOX (cutbox-rows.mjs): the forced cells as the released guide's own fill.sh prints them over the translation 1ffb1a3d951593f0… (all of the seat's roots in one cut). By AI agents, Wed Nov 11 2026. No macro, syntax, notation, axiom, sorry.
-/
import Derived.Test.YbulkscaDoorChecked
import GoSem.Claim
import GoSem.ClaimJoined
import GoSem.ClaimMapViews
import Derived.JoinedTies
import Derived.KernelRfl
namespace Go.Proofs.YbulkscaDoor
/- THE CELL 'sum', in the pinned program and in every row, IS THE sha256 OF THE DUMP (.gsa) THAT YbulkscaDoorProg.lean LOADS. Nothing in Lean hashes anything: it is a label: what it is worth is what the hold of that sum in a sandbox is worth. -/
noncomputable def Ybad.pinned : Pinned := { name := "ybulkscadoor", sum := "1ffb1a3d951593f00218fde283ca02b77585b9ba452c9b14d273fa5ac5a9282f", checked := Ybad.checked }
namespace Rows
def none {H : Type} : Left H := { results := [], args := [] }

/- WHAT THE LISTED PACKAGE-LEVEL VARIABLES READ AS WHEN THE CALL BEGINS. Each datum BY PROGRAM (the guide's laid-datum.mjs) off the statement by which the dump's own 'gosem.cut.vars' lays the variable. In a bare row this is a premise. The card (YbulkscaDoorCards.lean) ties it to the program's text. -/
def laid_example_com_seriatim_seriatim_lock_modes {H : Type} : DataW H := .agg [.agg [.lit (.int .u8 1), .lit (.string [73, 83]), .lit (.int .u8 7)], .agg [.lit (.int .u8 2), .lit (.string [83]), .lit (.int .u8 3)], .agg [.lit (.int .u8 4), .lit (.string [73, 88]), .lit (.int .u8 5)], .agg [.lit (.int .u8 8), .lit (.string [88]), .lit (.int .u8 0)]]

/-- 'lock.LawS0923AState': WHATEVER THE INPUT: true; the input reads as it did. -/
def lawS0923AStateSpec : ChangeSpec := { name := "lawS0923AState", vars := ["example.com/seriatim/seriatim/lock.modes"], fn := fun _ => fun
  | [d1, d2, d3, g1] => { results := [.lit (.bool true)], args := [d1, d2, d3], vars := [g1] }
  | _ => none }
def lawS0923AStateRow : OpenClaim := { program := "ybulkscadoor", sum := "1ffb1a3d951593f00218fde283ca02b77585b9ba452c9b14d273fa5ac5a9282f", func := "example.com/seriatim/seriatim/lock.LawS0923AState", spec := "lawS0923AState", named := ["example.com/seriatim/seriatim/lock.modes"], apart := false, laid := [("example.com/seriatim/seriatim/lock.modes", laid_example_com_seriatim_seriatim_lock_modes)] }
def LawS0923AStateSaid : Prop := lawS0923AStateRow.holds Ybad.pinned (OpenSpec.ofChange lawS0923AStateSpec)

/-- ITS FALSE NEIGHBOUR: 'it returns false'. Refute it at one input. -/
def lawS0923AStateWrong : ChangeSpec := { name := "lawS0923AState", vars := ["example.com/seriatim/seriatim/lock.modes"], fn := fun _ => fun
  | [d1, d2, d3, g1] => { results := [.lit (.bool false)], args := [d1, d2, d3], vars := [g1] }
  | _ => none }
def LawS0923AStateWrongFalsely : Prop := lawS0923AStateRow.holds Ybad.pinned (OpenSpec.ofChange lawS0923AStateWrong)

/-- 'lock.LawS0923ABesides': WHATEVER THE INPUT: true; the input reads as it did. -/
def lawS0923ABesidesSpec : ChangeSpec := { name := "lawS0923ABesides", vars := ["example.com/seriatim/seriatim/lock.modes"], fn := fun _ => fun
  | [d1, d2, d3, g1] => { results := [.lit (.bool true)], args := [d1, d2, d3], vars := [g1] }
  | _ => none }
def lawS0923ABesidesRow : OpenClaim := { program := "ybulkscadoor", sum := "1ffb1a3d951593f00218fde283ca02b77585b9ba452c9b14d273fa5ac5a9282f", func := "example.com/seriatim/seriatim/lock.LawS0923ABesides", spec := "lawS0923ABesides", named := ["example.com/seriatim/seriatim/lock.modes"], apart := false, laid := [("example.com/seriatim/seriatim/lock.modes", laid_example_com_seriatim_seriatim_lock_modes)] }
def LawS0923ABesidesSaid : Prop := lawS0923ABesidesRow.holds Ybad.pinned (OpenSpec.ofChange lawS0923ABesidesSpec)

/-- ITS FALSE NEIGHBOUR: 'it returns false'. Refute it at one input. -/
def lawS0923ABesidesWrong : ChangeSpec := { name := "lawS0923ABesides", vars := ["example.com/seriatim/seriatim/lock.modes"], fn := fun _ => fun
  | [d1, d2, d3, g1] => { results := [.lit (.bool false)], args := [d1, d2, d3], vars := [g1] }
  | _ => none }
def LawS0923ABesidesWrongFalsely : Prop := lawS0923ABesidesRow.holds Ybad.pinned (OpenSpec.ofChange lawS0923ABesidesWrong)

end Rows
end Go.Proofs.YbulkscaDoor
