/-
  DERIVED. GIVEN WITH THE SEED: THE CARDS: each row of YbulkdkkyFmtRows.lean that lists a variable, with what it lists TIED to the program's text (the seventh form; the later family's looks); each row that meets fmt, with fmt's text TOLD by the authors' own Lean function (tested against real Go, not proved from fmt's source: count such statements apart). THE CARD IS WHAT COUNTS. Prove the row's statement (the work); the ties are given (YbulkdkkyFmtTie.lean); close each card by the builder's one call (the guide's Derived/Test/ToyasCard.lean, 'card_holds'). Laid BY PROGRAM, IN A SANDBOX (cutbox-door.mjs). By AI agents, Wed Nov 11 2026. No macro, syntax, notation, axiom, sorry.
-/
import Derived.Test.YbulkdkkyFmtRows
import GoSem.ClaimSeven
namespace Go.Proofs.YbulkdkkyFmt
namespace Rows

/-- THE TOLD CARD OF 'sleeping.LawS5575AWhole'. -/
def lawS5575AWholeCard : Claim7 := { stood := { row := lawS5575AWholeRow, standIns := [], harness := (true, "3e9e6beb49e051f3a3776a4960f1ce43a718b4e90a5a4f7505fec9ee9d3d81ed"), looks := false }, told := true, goes := false }
def LawS5575AWholeToldSaid : Prop := Claim7.holds Ybaf.pinned (.plain (OpenSpec.ofChange lawS5575AWholeSpec)) lawS5575AWholeCard
/-- ITS FALSE NEIGHBOUR. Refute it at one input. -/
def LawS5575AWholeToldWrongFalsely : Prop := Claim7.holds Ybaf.pinned (.plain (OpenSpec.ofChange lawS5575AWholeWrong)) lawS5575AWholeCard

/-- THE TOLD CARD OF 'radio.LawS5575BWhole'. -/
def lawS5575BWholeCard : Claim7 := { stood := { row := lawS5575BWholeRow, standIns := [], harness := (true, "3e9e6beb49e051f3a3776a4960f1ce43a718b4e90a5a4f7505fec9ee9d3d81ed"), looks := false }, told := true, goes := false }
def LawS5575BWholeToldSaid : Prop := Claim7.holds Ybaf.pinned (.plain (OpenSpec.ofChange lawS5575BWholeSpec)) lawS5575BWholeCard
/-- ITS FALSE NEIGHBOUR. Refute it at one input. -/
def LawS5575BWholeToldWrongFalsely : Prop := Claim7.holds Ybaf.pinned (.plain (OpenSpec.ofChange lawS5575BWholeWrong)) lawS5575BWholeCard

/-- THE TOLD CARD OF 'radio.LawS5575CWhole'. -/
def lawS5575CWholeCard : Claim7 := { stood := { row := lawS5575CWholeRow, standIns := [], harness := (true, "3e9e6beb49e051f3a3776a4960f1ce43a718b4e90a5a4f7505fec9ee9d3d81ed"), looks := false }, told := true, goes := false }
def LawS5575CWholeToldSaid : Prop := Claim7.holds Ybaf.pinned (.plain (OpenSpec.ofChange lawS5575CWholeSpec)) lawS5575CWholeCard
/-- ITS FALSE NEIGHBOUR. Refute it at one input. -/
def LawS5575CWholeToldWrongFalsely : Prop := Claim7.holds Ybaf.pinned (.plain (OpenSpec.ofChange lawS5575CWholeWrong)) lawS5575CWholeCard
end Rows
end Go.Proofs.YbulkdkkyFmt
