/-
  DERIVED. GIVEN WITH THE SEED: THE CARDS: each row of YbulkdtjaFmtRows.lean that lists a variable, with what it lists TIED to the program's text (the seventh form; the later family's looks); each row that meets fmt, with fmt's text TOLD by the authors' own Lean function (tested against real Go, not proved from fmt's source: count such statements apart). THE CARD IS WHAT COUNTS. Prove the row's statement (the work); the ties are given (YbulkdtjaFmtTie.lean); close each card by the builder's one call (the guide's Derived/Test/ToyasCard.lean, 'card_holds'). Laid BY PROGRAM, IN A SANDBOX (cutbox-door.mjs). By AI agents, Wed Nov 11 2026. No macro, syntax, notation, axiom, sorry.
-/
import Derived.Test.YbulkdtjaFmtRows
import GoSem.ClaimSeven
namespace Go.Proofs.YbulkdtjaFmt
namespace Rows

/-- THE TOLD AND TIED CARD OF 'backup.LawS6006AWhole'. -/
def lawS6006AWholeCard : Claim7 := { stood := { row := lawS6006AWholeRow, standIns := [], harness := (true, "801aef8b1d4c909d46dd4145fb8ee1f5b2fee2f82766ff6379e7fecee8346320"), looks := true }, told := true, laidByText := true, laidKinds := [.sentinel, .sentinel, .sentinel], laidTests := true, laidLooks := .later, goes := false }
def LawS6006AWholeToldSaid : Prop := Claim7.holds Ybaf.pinned (.plain (OpenSpec.ofChange lawS6006AWholeSpec)) lawS6006AWholeCard
/-- ITS FALSE NEIGHBOUR. Refute it at one input. -/
def LawS6006AWholeToldWrongFalsely : Prop := Claim7.holds Ybaf.pinned (.plain (OpenSpec.ofChange lawS6006AWholeWrong)) lawS6006AWholeCard
end Rows
end Go.Proofs.YbulkdtjaFmt
