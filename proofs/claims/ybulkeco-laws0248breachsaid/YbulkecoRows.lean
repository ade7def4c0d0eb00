/-
  No cell of these rows narrows 'for every input' (looked for: loops, veiled, ifaces, maps, wideKeys, modest, calm, conditions, laid).
  DERIVED. THE GIVEN ROWS OF THIS SEAT. 3 by the template 'for every input the law returns true; each argument reads behind the call as it read before'; 0 by the template 'total and deterministic' (their statements: YbulkecoTotals.lean).
  GIVEN WITH THE SEED: the statements are not yours to turn. If you find one false, say at which input.
  Laid BY PROGRAM, IN A SANDBOX (cutbox-rows.mjs): the forced cells as the released guide's own fill.sh prints them over the translation 64e3e9c4d7c9ade9… (all of the seat's roots in one cut). By AI agents, Wed Nov 11 2026. No macro, syntax, notation, axiom, sorry.
-/
import Derived.Test.YbulkecoChecked
import GoSem.Claim
import GoSem.ClaimJoined
import GoSem.ClaimMapViews
import Derived.JoinedTies
import Derived.KernelRfl
namespace Go.Proofs.Ybulkeco
/- THE CELL 'sum', in the pinned program and in every row, IS THE sha256 OF THE DUMP (.gsa) THAT YbulkecoProg.lean LOADS. Nothing in Lean hashes anything: it is a label: what it is worth is what the hold of that sum in a sandbox is worth. -/
noncomputable def Yba.pinned : Pinned := { name := "ybulkeco", sum := "64e3e9c4d7c9ade9e1e524ca1f30b8ee03160d3cb5b130a91e3792f7a85aa84b", checked := Yba.checked }
namespace Rows
def none {H : Type} : Left H := { results := [], args := [] }

/-- 'syntax.LawS0248AColumns': WHATEVER THE INPUT: true; the input reads as it did. -/
def lawS0248AColumnsSpec : ChangeSpec := { name := "lawS0248AColumns", fn := fun _ => fun
  | [d] => { results := [.lit (.bool true)], args := [d] }
  | _ => none }
def lawS0248AColumnsRow : OpenClaim := { program := "ybulkeco", sum := "64e3e9c4d7c9ade9e1e524ca1f30b8ee03160d3cb5b130a91e3792f7a85aa84b", func := "variantic.example/variantic/pkg/syntax.LawS0248AColumns", spec := "lawS0248AColumns", apart := false }
def LawS0248AColumnsSaid : Prop := lawS0248AColumnsRow.holds Yba.pinned (OpenSpec.ofChange lawS0248AColumnsSpec)

/-- ITS FALSE NEIGHBOUR: 'it returns false'. Refute it at one input. -/
def lawS0248AColumnsWrong : ChangeSpec := { name := "lawS0248AColumns", fn := fun _ => fun
  | [d] => { results := [.lit (.bool false)], args := [d] }
  | _ => none }
def LawS0248AColumnsWrongFalsely : Prop := lawS0248AColumnsRow.holds Yba.pinned (OpenSpec.ofChange lawS0248AColumnsWrong)

/-- 'syntax.LawS0248AAligned': WHATEVER THE INPUT: true; the input reads as it did. -/
def lawS0248AAlignedSpec : ChangeSpec := { name := "lawS0248AAligned", fn := fun _ => fun
  | [d] => { results := [.lit (.bool true)], args := [d] }
  | _ => none }
def lawS0248AAlignedRow : OpenClaim := { program := "ybulkeco", sum := "64e3e9c4d7c9ade9e1e524ca1f30b8ee03160d3cb5b130a91e3792f7a85aa84b", func := "variantic.example/variantic/pkg/syntax.LawS0248AAligned", spec := "lawS0248AAligned", apart := false }
def LawS0248AAlignedSaid : Prop := lawS0248AAlignedRow.holds Yba.pinned (OpenSpec.ofChange lawS0248AAlignedSpec)

/-- ITS FALSE NEIGHBOUR: 'it returns false'. Refute it at one input. -/
def lawS0248AAlignedWrong : ChangeSpec := { name := "lawS0248AAligned", fn := fun _ => fun
  | [d] => { results := [.lit (.bool false)], args := [d] }
  | _ => none }
def LawS0248AAlignedWrongFalsely : Prop := lawS0248AAlignedRow.holds Yba.pinned (OpenSpec.ofChange lawS0248AAlignedWrong)

/-- 'syntax.LawS0248BReach': WHATEVER THE INPUT: true; the input reads as it did. -/
def lawS0248BReachSpec : ChangeSpec := { name := "lawS0248BReach", fn := fun _ => fun
  | [d1, d2, d3, d4, d5, d6, d7, d8] => { results := [.lit (.bool true)], args := [d1, d2, d3, d4, d5, d6, d7, d8] }
  | _ => none }
def lawS0248BReachRow : OpenClaim := { program := "ybulkeco", sum := "64e3e9c4d7c9ade9e1e524ca1f30b8ee03160d3cb5b130a91e3792f7a85aa84b", func := "variantic.example/variantic/pkg/syntax.LawS0248BReach", spec := "lawS0248BReach", unfollowed := true, recurses := true, apart := false }
def LawS0248BReachSaid : Prop := lawS0248BReachRow.holds Yba.pinned (OpenSpec.ofChange lawS0248BReachSpec)

/-- ITS FALSE NEIGHBOUR: 'it returns false'. Refute it at one input. -/
def lawS0248BReachWrong : ChangeSpec := { name := "lawS0248BReach", fn := fun _ => fun
  | [d1, d2, d3, d4, d5, d6, d7, d8] => { results := [.lit (.bool false)], args := [d1, d2, d3, d4, d5, d6, d7, d8] }
  | _ => none }
def LawS0248BReachWrongFalsely : Prop := lawS0248BReachRow.holds Yba.pinned (OpenSpec.ofChange lawS0248BReachWrong)

end Rows
end Go.Proofs.Ybulkeco
