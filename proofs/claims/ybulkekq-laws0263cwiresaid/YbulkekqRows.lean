/-
  No cell of these rows narrows 'for every input' (looked for: loops, veiled, ifaces, maps, wideKeys, modest, calm, conditions, laid).
  DERIVED. THE GIVEN ROWS OF THIS SEAT. 2 by the template 'for every input the law returns true; each argument reads behind the call as it read before'; 0 by the template 'total and deterministic' (their statements: YbulkekqTotals.lean).
  GIVEN WITH THE SEED: the statements are not yours to turn. If you find one false, say at which input.
  Laid BY PROGRAM, IN A SANDBOX (cutbox-rows.mjs): the forced cells as the released guide's own fill.sh prints them over the translation 629670300ec829e0… (all of the seat's roots in one cut). By AI agents, Wed Nov 11 2026. No macro, syntax, notation, axiom, sorry.
-/
import Derived.Test.YbulkekqChecked
import GoSem.Claim
import GoSem.ClaimJoined
import GoSem.ClaimMapViews
import Derived.JoinedTies
import Derived.KernelRfl
namespace Go.Proofs.Ybulkekq
/- THE CELL 'sum', in the pinned program and in every row, IS THE sha256 OF THE DUMP (.gsa) THAT YbulkekqProg.lean LOADS. Nothing in Lean hashes anything: it is a label: what it is worth is what the hold of that sum in a sandbox is worth. -/
noncomputable def Yba.pinned : Pinned := { name := "ybulkekq", sum := "629670300ec829e06473c424cec07d25ad5e102cf080ad9419e95fc0fdd7ed3e", checked := Yba.checked }
namespace Rows
def none {H : Type} : Left H := { results := [], args := [] }

/-- 'bft.LawS0263CWire': WHATEVER THE INPUT: true; the input reads as it did. -/
def lawS0263CWireSpec : ChangeSpec := { name := "lawS0263CWire", fn := fun _ => fun
  | [d1, d2] => { results := [.lit (.bool true)], args := [d1, d2] }
  | _ => none }
def lawS0263CWireRow : OpenClaim := { program := "ybulkekq", sum := "629670300ec829e06473c424cec07d25ad5e102cf080ad9419e95fc0fdd7ed3e", func := "example.com/halyard/halyard/internal/bft.LawS0263CWire", spec := "lawS0263CWire", named := ["encoding/binary.BigEndian"], apart := false }
def LawS0263CWireSaid : Prop := lawS0263CWireRow.holds Yba.pinned (OpenSpec.ofChange lawS0263CWireSpec)

/-- ITS FALSE NEIGHBOUR: 'it returns false'. Refute it at one input. -/
def lawS0263CWireWrong : ChangeSpec := { name := "lawS0263CWire", fn := fun _ => fun
  | [d1, d2] => { results := [.lit (.bool false)], args := [d1, d2] }
  | _ => none }
def LawS0263CWireWrongFalsely : Prop := lawS0263CWireRow.holds Yba.pinned (OpenSpec.ofChange lawS0263CWireWrong)

/-- 'bft.LawS0263CPrefix': WHATEVER THE INPUT: true; the input reads as it did. -/
def lawS0263CPrefixSpec : ChangeSpec := { name := "lawS0263CPrefix", fn := fun _ => fun
  | [d1, d2] => { results := [.lit (.bool true)], args := [d1, d2] }
  | _ => none }
def lawS0263CPrefixRow : OpenClaim := { program := "ybulkekq", sum := "629670300ec829e06473c424cec07d25ad5e102cf080ad9419e95fc0fdd7ed3e", func := "example.com/halyard/halyard/internal/bft.LawS0263CPrefix", spec := "lawS0263CPrefix", named := ["encoding/binary.BigEndian"], apart := false }
def LawS0263CPrefixSaid : Prop := lawS0263CPrefixRow.holds Yba.pinned (OpenSpec.ofChange lawS0263CPrefixSpec)

/-- ITS FALSE NEIGHBOUR: 'it returns false'. Refute it at one input. -/
def lawS0263CPrefixWrong : ChangeSpec := { name := "lawS0263CPrefix", fn := fun _ => fun
  | [d1, d2] => { results := [.lit (.bool false)], args := [d1, d2] }
  | _ => none }
def LawS0263CPrefixWrongFalsely : Prop := lawS0263CPrefixRow.holds Yba.pinned (OpenSpec.ofChange lawS0263CPrefixWrong)

end Rows
end Go.Proofs.Ybulkekq
