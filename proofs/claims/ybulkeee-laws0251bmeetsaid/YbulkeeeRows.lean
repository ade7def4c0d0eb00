/-
  No cell of these rows narrows 'for every input' (looked for: loops, veiled, ifaces, maps, wideKeys, modest, calm, conditions, laid).
  DERIVED. THE GIVEN ROWS OF THIS SEAT. 2 by the template 'for every input the law returns true; each argument reads behind the call as it read before'; 0 by the template 'total and deterministic' (their statements: YbulkeeeTotals.lean).
  GIVEN WITH THE SEED: the statements are not yours to turn. If you find one false, say at which input.
  Laid BY PROGRAM, IN A SANDBOX (cutbox-rows.mjs): the forced cells as the released guide's own fill.sh prints them over the translation 8ed7c1b10ae1272f… (all of the seat's roots in one cut). By AI agents, Wed Nov 11 2026. No macro, syntax, notation, axiom, sorry.
-/
import Derived.Test.YbulkeeeChecked
import GoSem.Claim
import GoSem.ClaimJoined
import GoSem.ClaimMapViews
import Derived.JoinedTies
import Derived.KernelRfl
namespace Go.Proofs.Ybulkeee
/- THE CELL 'sum', in the pinned program and in every row, IS THE sha256 OF THE DUMP (.gsa) THAT YbulkeeeProg.lean LOADS. Nothing in Lean hashes anything: it is a label: what it is worth is what the hold of that sum in a sandbox is worth. -/
noncomputable def Yba.pinned : Pinned := { name := "ybulkeee", sum := "8ed7c1b10ae1272fab153e05269e4cd747a731b0b9f0d8b03f6b6ebb45eb2d35", checked := Yba.checked }
namespace Rows
def none {H : Type} : Left H := { results := [], args := [] }

/-- 'beforehand.LawS0251BMeet': WHATEVER THE INPUT: true; the input reads as it did. -/
def lawS0251BMeetSpec : ChangeSpec := { name := "lawS0251BMeet", fn := fun _ => fun
  | [d1, d2, d3, d4, d5] => { results := [.lit (.bool true)], args := [d1, d2, d3, d4, d5] }
  | _ => none }
def lawS0251BMeetRow : OpenClaim := { program := "ybulkeee", sum := "8ed7c1b10ae1272fab153e05269e4cd747a731b0b9f0d8b03f6b6ebb45eb2d35", func := "example.com/beforehand/beforehand.LawS0251BMeet", spec := "lawS0251BMeet", apart := false }
def LawS0251BMeetSaid : Prop := lawS0251BMeetRow.holds Yba.pinned (OpenSpec.ofChange lawS0251BMeetSpec)

/-- ITS FALSE NEIGHBOUR: 'it returns false'. Refute it at one input. -/
def lawS0251BMeetWrong : ChangeSpec := { name := "lawS0251BMeet", fn := fun _ => fun
  | [d1, d2, d3, d4, d5] => { results := [.lit (.bool false)], args := [d1, d2, d3, d4, d5] }
  | _ => none }
def LawS0251BMeetWrongFalsely : Prop := lawS0251BMeetRow.holds Yba.pinned (OpenSpec.ofChange lawS0251BMeetWrong)

/-- 'beforehand.LawS0251BInPlace': WHATEVER THE INPUT: true; the input reads as it did. -/
def lawS0251BInPlaceSpec : ChangeSpec := { name := "lawS0251BInPlace", fn := fun _ => fun
  | [d1, d2, d3, d4, d5] => { results := [.lit (.bool true)], args := [d1, d2, d3, d4, d5] }
  | _ => none }
def lawS0251BInPlaceRow : OpenClaim := { program := "ybulkeee", sum := "8ed7c1b10ae1272fab153e05269e4cd747a731b0b9f0d8b03f6b6ebb45eb2d35", func := "example.com/beforehand/beforehand.LawS0251BInPlace", spec := "lawS0251BInPlace", apart := false }
def LawS0251BInPlaceSaid : Prop := lawS0251BInPlaceRow.holds Yba.pinned (OpenSpec.ofChange lawS0251BInPlaceSpec)

/-- ITS FALSE NEIGHBOUR: 'it returns false'. Refute it at one input. -/
def lawS0251BInPlaceWrong : ChangeSpec := { name := "lawS0251BInPlace", fn := fun _ => fun
  | [d1, d2, d3, d4, d5] => { results := [.lit (.bool false)], args := [d1, d2, d3, d4, d5] }
  | _ => none }
def LawS0251BInPlaceWrongFalsely : Prop := lawS0251BInPlaceRow.holds Yba.pinned (OpenSpec.ofChange lawS0251BInPlaceWrong)

end Rows
end Go.Proofs.Ybulkeee
