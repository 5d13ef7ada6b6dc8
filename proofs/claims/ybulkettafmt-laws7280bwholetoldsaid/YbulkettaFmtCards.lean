/-
  DERIVED. GIVEN WITH THE SEED: THE CARDS: each row of YbulkettaFmtRows.lean that lists a variable, with what it lists TIED to the program's text (the seventh form; the later family's looks); each row that meets fmt, with fmt's text TOLD by the authors' own Lean function (tested against real Go, not proved from fmt's source: count such statements apart). THE CARD IS WHAT COUNTS. Prove the row's statement (the work); the ties are given (YbulkettaFmtTie.lean); close each card by the builder's one call (the guide's Derived/Test/ToyasCard.lean, 'card_holds'). Laid BY PROGRAM, IN A SANDBOX (cutbox-door.mjs). By AI agents, Wed Nov 11 2026. No macro, syntax, notation, axiom, sorry.
-/
import Derived.Test.YbulkettaFmtRows
import GoSem.ClaimSeven
namespace Go.Proofs.YbulkettaFmt
namespace Rows

/-- THE TOLD AND TIED CARD OF 'registry.LawS7280BWhole'. -/
def lawS7280BWholeCard : Claim7 := { stood := { row := lawS7280BWholeRow, standIns := [], harness := (true, "2a275b33ae7ac41672267f4a50b6a86799fb43ae561111938d488118dbac7cda"), looks := true }, told := true, laidByText := true, laidKinds := [.sentinel, .sentinel], laidTests := true, laidLooks := .later, goes := false }
def LawS7280BWholeToldSaid : Prop := Claim7.holds Ybaf.pinned (.plain (OpenSpec.ofChange lawS7280BWholeSpec)) lawS7280BWholeCard
/-- ITS FALSE NEIGHBOUR. Refute it at one input. -/
def LawS7280BWholeToldWrongFalsely : Prop := Claim7.holds Ybaf.pinned (.plain (OpenSpec.ofChange lawS7280BWholeWrong)) lawS7280BWholeCard

/-- THE TOLD AND TIED CARD OF 'registry.LawS7280CWhole'. -/
def lawS7280CWholeCard : Claim7 := { stood := { row := lawS7280CWholeRow, standIns := [], harness := (true, "2a275b33ae7ac41672267f4a50b6a86799fb43ae561111938d488118dbac7cda"), looks := true }, told := true, laidByText := true, laidKinds := [.sentinel], laidTests := true, laidLooks := .later, goes := false }
def LawS7280CWholeToldSaid : Prop := Claim7.holds Ybaf.pinned (.plain (OpenSpec.ofChange lawS7280CWholeSpec)) lawS7280CWholeCard
/-- ITS FALSE NEIGHBOUR. Refute it at one input. -/
def LawS7280CWholeToldWrongFalsely : Prop := Claim7.holds Ybaf.pinned (.plain (OpenSpec.ofChange lawS7280CWholeWrong)) lawS7280CWholeCard
end Rows
end Go.Proofs.YbulkettaFmt
