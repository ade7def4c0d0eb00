/-
  NARROWER THAN 'FOR EVERY INPUT', by the rows' own cells (each row's printed sentence says how): LawS0254CWholeInput: laid · LawS0254CFromReader: laid.
  DERIVED. THE GIVEN ROWS OF THIS SEAT. 2 by the template 'for every input the law returns true; each argument reads behind the call as it read before'; 0 by the template 'total and deterministic' (their statements: YbulkefuDoorTotals.lean).
  GIVEN WITH THE SEED: the statements are not yours to turn. If you find one false, say at which input.
  Laid BY PROGRAM, IN A SANDBOX (cutbox-rows.mjs): the forced cells as the released guide's own fill.sh prints them over the translation 0603837ecfcf0276… (all of the seat's roots in one cut). By AI agents, Wed Nov 11 2026. No macro, syntax, notation, axiom, sorry.
-/
import Derived.Test.YbulkefuDoorChecked
import GoSem.Claim
import GoSem.ClaimJoined
import GoSem.ClaimMapViews
import Derived.JoinedTies
import Derived.KernelRfl
namespace Go.Proofs.YbulkefuDoor
/- THE CELL 'sum', in the pinned program and in every row, IS THE sha256 OF THE DUMP (.gsa) THAT YbulkefuDoorProg.lean LOADS. Nothing in Lean hashes anything: it is a label: what it is worth is what the hold of that sum in a sandbox is worth. -/
noncomputable def Ybad.pinned : Pinned := { name := "ybulkefudoor", sum := "0603837ecfcf0276846f59e9e3cd9f65ad659ca3633059203c5ba373e59d33dc", checked := Ybad.checked }
namespace Rows
def none {H : Type} : Left H := { results := [], args := [] }

/- WHAT THE LISTED PACKAGE-LEVEL VARIABLES READ AS WHEN THE CALL BEGINS. Each datum BY PROGRAM (the guide's laid-datum.mjs) off the statement by which the dump's own 'gosem.cut.vars' lays the variable. In a bare row this is a premise. The card (YbulkefuDoorCards.lean) ties it to the program's text. -/
def laid_io_EOF {H : Type} : DataW H := .iface "*errors.errorString" (.ptr (.agg [.lit (.string [69, 79, 70])]))
def laid_io_ErrNoProgress {H : Type} : DataW H := .iface "*errors.errorString" (.ptr (.agg [.lit (.string [109, 117, 108, 116, 105, 112, 108, 101, 32, 82, 101, 97, 100, 32, 99, 97, 108, 108, 115, 32, 114, 101, 116, 117, 114, 110, 32, 110, 111, 32, 100, 97, 116, 97, 32, 111, 114, 32, 101, 114, 114, 111, 114])]))

/-- 'jsontext.LawS0254CWholeInput': WHATEVER THE INPUT: true; the input reads as it did. -/
def lawS0254CWholeInputSpec : ChangeSpec := { name := "lawS0254CWholeInput", fn := fun _ => fun
  | [d1, d2] => { results := [.lit (.bool true)], args := [d1, d2] }
  | _ => none }
def lawS0254CWholeInputRow : OpenClaim := { program := "ybulkefudoor", sum := "0603837ecfcf0276846f59e9e3cd9f65ad659ca3633059203c5ba373e59d33dc", func := "example.com/cribble/cribble/internal/jsontext.LawS0254CWholeInput", spec := "lawS0254CWholeInput", unfollowed := true, recurses := true, named := ["io.EOF", "io.ErrNoProgress"], apart := false, laid := [("io.EOF", laid_io_EOF), ("io.ErrNoProgress", laid_io_ErrNoProgress)] }
def LawS0254CWholeInputSaid : Prop := lawS0254CWholeInputRow.holds Ybad.pinned (OpenSpec.ofChange lawS0254CWholeInputSpec)

/-- ITS FALSE NEIGHBOUR: 'it returns false'. Refute it at one input. -/
def lawS0254CWholeInputWrong : ChangeSpec := { name := "lawS0254CWholeInput", fn := fun _ => fun
  | [d1, d2] => { results := [.lit (.bool false)], args := [d1, d2] }
  | _ => none }
def LawS0254CWholeInputWrongFalsely : Prop := lawS0254CWholeInputRow.holds Ybad.pinned (OpenSpec.ofChange lawS0254CWholeInputWrong)

/-- 'jsontext.LawS0254CFromReader': WHATEVER THE INPUT: true; the input reads as it did. -/
def lawS0254CFromReaderSpec : ChangeSpec := { name := "lawS0254CFromReader", fn := fun _ => fun
  | [d1, d2, d3] => { results := [.lit (.bool true)], args := [d1, d2, d3] }
  | _ => none }
def lawS0254CFromReaderRow : OpenClaim := { program := "ybulkefudoor", sum := "0603837ecfcf0276846f59e9e3cd9f65ad659ca3633059203c5ba373e59d33dc", func := "example.com/cribble/cribble/internal/jsontext.LawS0254CFromReader", spec := "lawS0254CFromReader", unfollowed := true, recurses := true, named := ["io.EOF", "io.ErrNoProgress"], apart := false, laid := [("io.EOF", laid_io_EOF), ("io.ErrNoProgress", laid_io_ErrNoProgress)] }
def LawS0254CFromReaderSaid : Prop := lawS0254CFromReaderRow.holds Ybad.pinned (OpenSpec.ofChange lawS0254CFromReaderSpec)

/-- ITS FALSE NEIGHBOUR: 'it returns false'. Refute it at one input. -/
def lawS0254CFromReaderWrong : ChangeSpec := { name := "lawS0254CFromReader", fn := fun _ => fun
  | [d1, d2, d3] => { results := [.lit (.bool false)], args := [d1, d2, d3] }
  | _ => none }
def LawS0254CFromReaderWrongFalsely : Prop := lawS0254CFromReaderRow.holds Ybad.pinned (OpenSpec.ofChange lawS0254CFromReaderWrong)

end Rows
end Go.Proofs.YbulkefuDoor
