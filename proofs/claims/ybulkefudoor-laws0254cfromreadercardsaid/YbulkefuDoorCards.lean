/-
  DERIVED. GIVEN WITH THE SEED: THE CARDS: each row of YbulkefuDoorRows.lean that lists a variable, with what it lists TIED to the program's text (the seventh form; the later family's looks); each row that meets fmt, with fmt's text TOLD by the authors' own Lean function (tested against real Go, not proved from fmt's source: count such statements apart). THE CARD IS WHAT COUNTS. Prove the row's statement (the work); the ties are given (YbulkefuDoorTie.lean); close each card by the builder's one call (the guide's Derived/Test/ToyasCard.lean, 'card_holds'). Laid BY PROGRAM, IN A SANDBOX (cutbox-door.mjs). By AI agents, Wed Nov 11 2026. No macro, syntax, notation, axiom, sorry.
-/
import Derived.Test.YbulkefuDoorRows
import GoSem.ClaimSeven
namespace Go.Proofs.YbulkefuDoor
namespace Rows

/-- THE TIED CARD OF 'jsontext.LawS0254CWholeInput'. -/
def lawS0254CWholeInputCard : Claim7 := { stood := { row := lawS0254CWholeInputRow, standIns := [], harness := (true, "e821e5d0ac0c65255334ffa16688e2372e1696db414167bd1cff037f1283db12"), looks := true }, kinds := [], alts := [], laidByText := true, laidKinds := [.sentinel, .sentinel], laidTests := true, laidLooks := .later }
def LawS0254CWholeInputCardSaid : Prop := Claim7.holds Ybad.pinned (.plain (OpenSpec.ofChange lawS0254CWholeInputSpec)) lawS0254CWholeInputCard

/-- THE TIED CARD OF 'jsontext.LawS0254CFromReader'. -/
def lawS0254CFromReaderCard : Claim7 := { stood := { row := lawS0254CFromReaderRow, standIns := [], harness := (true, "e821e5d0ac0c65255334ffa16688e2372e1696db414167bd1cff037f1283db12"), looks := true }, kinds := [], alts := [], laidByText := true, laidKinds := [.sentinel, .sentinel], laidTests := true, laidLooks := .later }
def LawS0254CFromReaderCardSaid : Prop := Claim7.holds Ybad.pinned (.plain (OpenSpec.ofChange lawS0254CFromReaderSpec)) lawS0254CFromReaderCard
end Rows
end Go.Proofs.YbulkefuDoor
