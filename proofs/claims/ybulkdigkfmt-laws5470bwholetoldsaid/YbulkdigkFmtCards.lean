/-
  DERIVED. GIVEN WITH THE SEED: THE CARDS: each row of YbulkdigkFmtRows.lean that lists a variable, with what it lists TIED to the program's text (the seventh form; the later family's looks); each row that meets fmt, with fmt's text TOLD by the authors' own Lean function (tested against real Go, not proved from fmt's source: count such statements apart). THE CARD IS WHAT COUNTS. Prove the row's statement (the work); the ties are given (YbulkdigkFmtTie.lean); close each card by the builder's one call (the guide's Derived/Test/ToyasCard.lean, 'card_holds'). Laid BY PROGRAM, IN A SANDBOX (cutbox-door.mjs). By AI agents, Wed Nov 11 2026. No macro, syntax, notation, axiom, sorry.
-/
import Derived.Test.YbulkdigkFmtRows
import GoSem.ClaimSeven
namespace Go.Proofs.YbulkdigkFmt
namespace Rows

/-- THE TOLD CARD OF 'insist.LawS5470BWhole'. -/
def lawS5470BWholeCard : Claim7 := { stood := { row := lawS5470BWholeRow, standIns := [], harness := (true, "c86263f8b1ac6c66e69d1bfda6bf6c5732b210be5dabb72a13f9dfcb714182c8"), looks := true }, told := true, goes := false }
def LawS5470BWholeToldSaid : Prop := Claim7.holds Ybaf.pinned (.plain (OpenSpec.ofChange lawS5470BWholeSpec)) lawS5470BWholeCard
/-- ITS FALSE NEIGHBOUR. Refute it at one input. -/
def LawS5470BWholeToldWrongFalsely : Prop := Claim7.holds Ybaf.pinned (.plain (OpenSpec.ofChange lawS5470BWholeWrong)) lawS5470BWholeCard

/-- THE TOLD AND TIED CARD OF 'insist.LawS5470CWhole'. -/
def lawS5470CWholeCard : Claim7 := { stood := { row := lawS5470CWholeRow, standIns := [], harness := (true, "c86263f8b1ac6c66e69d1bfda6bf6c5732b210be5dabb72a13f9dfcb714182c8"), looks := true }, told := true, laidByText := true, laidKinds := [.handle], laidTests := true, laidLooks := .later, goes := false }
def LawS5470CWholeToldSaid : Prop := Claim7.holds Ybaf.pinned (.plain (OpenSpec.ofChange lawS5470CWholeSpec)) lawS5470CWholeCard
/-- ITS FALSE NEIGHBOUR. Refute it at one input. -/
def LawS5470CWholeToldWrongFalsely : Prop := Claim7.holds Ybaf.pinned (.plain (OpenSpec.ofChange lawS5470CWholeWrong)) lawS5470CWholeCard
end Rows
end Go.Proofs.YbulkdigkFmt
