/-
  DERIVED. GIVEN WITH THE SEED: THE CARDS: each row of YbulkckseFmtRows.lean that lists a variable, with what it lists TIED to the program's text (the seventh form; the later family's looks); each row that meets fmt, with fmt's text TOLD by the authors' own Lean function (tested against real Go, not proved from fmt's source: count such statements apart). THE CARD IS WHAT COUNTS. Prove the row's statement (the work); the ties are given (YbulkckseFmtTie.lean); close each card by the builder's one call (the guide's Derived/Test/ToyasCard.lean, 'card_holds'). Laid BY PROGRAM, IN A SANDBOX (cutbox-door.mjs). By AI agents, Wed Nov 11 2026. No macro, syntax, notation, axiom, sorry.
-/
import Derived.Test.YbulkckseFmtRows
import GoSem.ClaimSeven
namespace Go.Proofs.YbulkckseFmt
namespace Rows

/-- THE TOLD AND TIED CARD OF 'rivulet.LawS4333BModel'. -/
def lawS4333BModelCard : Claim7 := { stood := { row := lawS4333BModelRow, standIns := [], harness := (true, "7e16017729d7093b6774124c4f86ee294440d747822428be6acd02af7d7f8347"), looks := true }, told := true, laidByText := true, laidKinds := [.called], laidTests := true, laidLooks := .later, goes := false }
def LawS4333BModelToldSaid : Prop := Claim7.holds Ybaf.pinned (.plain (OpenSpec.ofChange lawS4333BModelSpec)) lawS4333BModelCard
/-- ITS FALSE NEIGHBOUR. Refute it at one input. -/
def LawS4333BModelToldWrongFalsely : Prop := Claim7.holds Ybaf.pinned (.plain (OpenSpec.ofChange lawS4333BModelWrong)) lawS4333BModelCard
end Rows
end Go.Proofs.YbulkckseFmt
