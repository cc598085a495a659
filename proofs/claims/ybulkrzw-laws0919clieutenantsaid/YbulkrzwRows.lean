/-
  No cell of these rows narrows 'for every input' (looked for: loops, veiled, ifaces, maps, wideKeys, modest, calm, conditions, laid).
  DERIVED. THE GIVEN ROWS OF THIS SEAT. 6 by the template 'for every input the law returns true; each argument reads behind the call as it read before'; 0 by the template 'total and deterministic' (their statements: YbulkrzwTotals.lean).
  GIVEN WITH THE SEED: the statements are not yours to turn. If you find one false, say at which input.
  Laid BY PROGRAM, IN A SANDBOX (cutbox-rows.mjs): the forced cells as the released guide's own fill.sh prints them over the translation 613a57f2e7a8d1a9… (all of the seat's roots in one cut). By AI agents, Wed Nov 11 2026. No macro, syntax, notation, axiom, sorry.
-/
import Derived.Test.YbulkrzwChecked
import GoSem.Claim
import GoSem.ClaimJoined
import GoSem.ClaimMapViews
import Derived.JoinedTies
import Derived.KernelRfl
namespace Go.Proofs.Ybulkrzw
/- THE CELL 'sum', in the pinned program and in every row, IS THE sha256 OF THE DUMP (.gsa) THAT YbulkrzwProg.lean LOADS. Nothing in Lean hashes anything: it is a label: what it is worth is what the hold of that sum in a sandbox is worth. -/
noncomputable def Yba.pinned : Pinned := { name := "ybulkrzw", sum := "613a57f2e7a8d1a94fa3a47ea4ee310ac701f057453027308032249d0a4f5a15", checked := Yba.checked }
namespace Rows
def none {H : Type} : Left H := { results := [], args := [] }

/-- 'member.LawS0919AWire': WHATEVER THE INPUT: true; the input reads as it did. -/
def lawS0919AWireSpec : ChangeSpec := { name := "lawS0919AWire", fn := fun _ => fun
  | [d1, d2, d3, d4] => { results := [.lit (.bool true)], args := [d1, d2, d3, d4] }
  | _ => none }
def lawS0919AWireRow : OpenClaim := { program := "ybulkrzw", sum := "613a57f2e7a8d1a94fa3a47ea4ee310ac701f057453027308032249d0a4f5a15", func := "example.com/conclave/conclave/member.LawS0919AWire", spec := "lawS0919AWire", named := ["encoding/binary.BigEndian"], apart := false }
def LawS0919AWireSaid : Prop := lawS0919AWireRow.holds Yba.pinned (OpenSpec.ofChange lawS0919AWireSpec)

/-- ITS FALSE NEIGHBOUR: 'it returns false'. Refute it at one input. -/
def lawS0919AWireWrong : ChangeSpec := { name := "lawS0919AWire", fn := fun _ => fun
  | [d1, d2, d3, d4] => { results := [.lit (.bool false)], args := [d1, d2, d3, d4] }
  | _ => none }
def LawS0919AWireWrongFalsely : Prop := lawS0919AWireRow.holds Yba.pinned (OpenSpec.ofChange lawS0919AWireWrong)

/-- 'member.LawS0919ARoundTrip': WHATEVER THE INPUT: true; the input reads as it did. -/
def lawS0919ARoundTripSpec : ChangeSpec := { name := "lawS0919ARoundTrip", fn := fun _ => fun
  | [d1, d2, d3] => { results := [.lit (.bool true)], args := [d1, d2, d3] }
  | _ => none }
def lawS0919ARoundTripRow : OpenClaim := { program := "ybulkrzw", sum := "613a57f2e7a8d1a94fa3a47ea4ee310ac701f057453027308032249d0a4f5a15", func := "example.com/conclave/conclave/member.LawS0919ARoundTrip", spec := "lawS0919ARoundTrip", named := ["encoding/binary.BigEndian"], apart := false }
def LawS0919ARoundTripSaid : Prop := lawS0919ARoundTripRow.holds Yba.pinned (OpenSpec.ofChange lawS0919ARoundTripSpec)

/-- ITS FALSE NEIGHBOUR: 'it returns false'. Refute it at one input. -/
def lawS0919ARoundTripWrong : ChangeSpec := { name := "lawS0919ARoundTrip", fn := fun _ => fun
  | [d1, d2, d3] => { results := [.lit (.bool false)], args := [d1, d2, d3] }
  | _ => none }
def LawS0919ARoundTripWrongFalsely : Prop := lawS0919ARoundTripRow.holds Yba.pinned (OpenSpec.ofChange lawS0919ARoundTripWrong)

/-- 'eig.LawS0919BResolve': WHATEVER THE INPUT: true; the input reads as it did. -/
def lawS0919BResolveSpec : ChangeSpec := { name := "lawS0919BResolve", fn := fun _ => fun
  | [d1, d2, d3, d4] => { results := [.lit (.bool true)], args := [d1, d2, d3, d4] }
  | _ => none }
def lawS0919BResolveRow : OpenClaim := { program := "ybulkrzw", sum := "613a57f2e7a8d1a94fa3a47ea4ee310ac701f057453027308032249d0a4f5a15", func := "example.com/conclave/conclave/eig.LawS0919BResolve", spec := "lawS0919BResolve", apart := false }
def LawS0919BResolveSaid : Prop := lawS0919BResolveRow.holds Yba.pinned (OpenSpec.ofChange lawS0919BResolveSpec)

/-- ITS FALSE NEIGHBOUR: 'it returns false'. Refute it at one input. -/
def lawS0919BResolveWrong : ChangeSpec := { name := "lawS0919BResolve", fn := fun _ => fun
  | [d1, d2, d3, d4] => { results := [.lit (.bool false)], args := [d1, d2, d3, d4] }
  | _ => none }
def LawS0919BResolveWrongFalsely : Prop := lawS0919BResolveRow.holds Yba.pinned (OpenSpec.ofChange lawS0919BResolveWrong)

/-- 'eig.LawS0919BUniform': WHATEVER THE INPUT: true; the input reads as it did. -/
def lawS0919BUniformSpec : ChangeSpec := { name := "lawS0919BUniform", fn := fun _ => fun
  | [d1, d2, d3, d4] => { results := [.lit (.bool true)], args := [d1, d2, d3, d4] }
  | _ => none }
def lawS0919BUniformRow : OpenClaim := { program := "ybulkrzw", sum := "613a57f2e7a8d1a94fa3a47ea4ee310ac701f057453027308032249d0a4f5a15", func := "example.com/conclave/conclave/eig.LawS0919BUniform", spec := "lawS0919BUniform", apart := false }
def LawS0919BUniformSaid : Prop := lawS0919BUniformRow.holds Yba.pinned (OpenSpec.ofChange lawS0919BUniformSpec)

/-- ITS FALSE NEIGHBOUR: 'it returns false'. Refute it at one input. -/
def lawS0919BUniformWrong : ChangeSpec := { name := "lawS0919BUniform", fn := fun _ => fun
  | [d1, d2, d3, d4] => { results := [.lit (.bool false)], args := [d1, d2, d3, d4] }
  | _ => none }
def LawS0919BUniformWrongFalsely : Prop := lawS0919BUniformRow.holds Yba.pinned (OpenSpec.ofChange lawS0919BUniformWrong)

/-- 'oralmessages.LawS0919CCommander': WHATEVER THE INPUT: true; the input reads as it did. -/
def lawS0919CCommanderSpec : ChangeSpec := { name := "lawS0919CCommander", fn := fun _ => fun
  | [d1, d2, d3, d4, d5] => { results := [.lit (.bool true)], args := [d1, d2, d3, d4, d5] }
  | _ => none }
def lawS0919CCommanderRow : OpenClaim := { program := "ybulkrzw", sum := "613a57f2e7a8d1a94fa3a47ea4ee310ac701f057453027308032249d0a4f5a15", func := "example.com/conclave/conclave/oralmessages.LawS0919CCommander", spec := "lawS0919CCommander", apart := false }
def LawS0919CCommanderSaid : Prop := lawS0919CCommanderRow.holds Yba.pinned (OpenSpec.ofChange lawS0919CCommanderSpec)

/-- ITS FALSE NEIGHBOUR: 'it returns false'. Refute it at one input. -/
def lawS0919CCommanderWrong : ChangeSpec := { name := "lawS0919CCommander", fn := fun _ => fun
  | [d1, d2, d3, d4, d5] => { results := [.lit (.bool false)], args := [d1, d2, d3, d4, d5] }
  | _ => none }
def LawS0919CCommanderWrongFalsely : Prop := lawS0919CCommanderRow.holds Yba.pinned (OpenSpec.ofChange lawS0919CCommanderWrong)

/-- 'oralmessages.LawS0919CLieutenant': WHATEVER THE INPUT: true; the input reads as it did. -/
def lawS0919CLieutenantSpec : ChangeSpec := { name := "lawS0919CLieutenant", fn := fun _ => fun
  | [d1, d2, d3, d4, d5, d6] => { results := [.lit (.bool true)], args := [d1, d2, d3, d4, d5, d6] }
  | _ => none }
def lawS0919CLieutenantRow : OpenClaim := { program := "ybulkrzw", sum := "613a57f2e7a8d1a94fa3a47ea4ee310ac701f057453027308032249d0a4f5a15", func := "example.com/conclave/conclave/oralmessages.LawS0919CLieutenant", spec := "lawS0919CLieutenant", unfollowed := true, recurses := true, apart := false }
def LawS0919CLieutenantSaid : Prop := lawS0919CLieutenantRow.holds Yba.pinned (OpenSpec.ofChange lawS0919CLieutenantSpec)

/-- ITS FALSE NEIGHBOUR: 'it returns false'. Refute it at one input. -/
def lawS0919CLieutenantWrong : ChangeSpec := { name := "lawS0919CLieutenant", fn := fun _ => fun
  | [d1, d2, d3, d4, d5, d6] => { results := [.lit (.bool false)], args := [d1, d2, d3, d4, d5, d6] }
  | _ => none }
def LawS0919CLieutenantWrongFalsely : Prop := lawS0919CLieutenantRow.holds Yba.pinned (OpenSpec.ofChange lawS0919CLieutenantWrong)

end Rows
end Go.Proofs.Ybulkrzw
