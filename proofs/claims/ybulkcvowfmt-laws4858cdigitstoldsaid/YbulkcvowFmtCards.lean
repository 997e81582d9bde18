/-
  DERIVED. GIVEN WITH THE SEED: THE CARDS: each row of YbulkcvowFmtRows.lean that lists a variable, with what it lists TIED to the program's text (the seventh form; the later family's looks); each row that meets fmt, with fmt's text TOLD by the authors' own Lean function (tested against real Go, not proved from fmt's source: count such statements apart). THE CARD IS WHAT COUNTS. Prove the row's statement (the work); the ties are given (YbulkcvowFmtTie.lean); close each card by the builder's one call (the guide's Derived/Test/ToyasCard.lean, 'card_holds'). Laid BY PROGRAM, IN A SANDBOX (cutbox-door.mjs). By AI agents, Wed Nov 11 2026. No macro, syntax, notation, axiom, sorry.
-/
import Derived.Test.YbulkcvowFmtRows
import GoSem.ClaimSeven
namespace Go.Proofs.YbulkcvowFmt
namespace Rows

/-- THE TOLD AND TIED CARD OF 'vestwright.LawS4858CModel'. -/
def lawS4858CModelCard : Claim7 := { stood := { row := lawS4858CModelRow, standIns := [], harness := (true, "9eb21029991705509e639c975cea49a15868d769fe9b2d8486228fafbe5551e5"), looks := true }, told := true, laidByText := true, laidKinds := [.data, .data, .data, .called, .called], laidTests := true, laidLooks := .later, goes := false }
def LawS4858CModelToldSaid : Prop := Claim7.holds Ybaf.pinned (.plain (OpenSpec.ofChange lawS4858CModelSpec)) lawS4858CModelCard
/-- ITS FALSE NEIGHBOUR. Refute it at one input. -/
def LawS4858CModelToldWrongFalsely : Prop := Claim7.holds Ybaf.pinned (.plain (OpenSpec.ofChange lawS4858CModelWrong)) lawS4858CModelCard

/-- THE TOLD AND TIED CARD OF 'vestwright.LawS4858CDigits'. -/
def lawS4858CDigitsCard : Claim7 := { stood := { row := lawS4858CDigitsRow, standIns := [], harness := (true, "9eb21029991705509e639c975cea49a15868d769fe9b2d8486228fafbe5551e5"), looks := true }, told := true, laidByText := true, laidKinds := [.data, .data, .data, .called, .called], laidTests := true, laidLooks := .later, goes := false }
def LawS4858CDigitsToldSaid : Prop := Claim7.holds Ybaf.pinned (.plain (OpenSpec.ofChange lawS4858CDigitsSpec)) lawS4858CDigitsCard
/-- ITS FALSE NEIGHBOUR. Refute it at one input. -/
def LawS4858CDigitsToldWrongFalsely : Prop := Claim7.holds Ybaf.pinned (.plain (OpenSpec.ofChange lawS4858CDigitsWrong)) lawS4858CDigitsCard
end Rows
end Go.Proofs.YbulkcvowFmt
