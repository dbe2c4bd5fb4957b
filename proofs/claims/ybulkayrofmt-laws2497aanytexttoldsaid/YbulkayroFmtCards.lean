/-
  DERIVED. GIVEN WITH THE SEED: THE CARDS: each row of YbulkayroFmtRows.lean that lists a variable, with what it lists TIED to the program's text (the seventh form; the later family's looks); each row that meets fmt, with fmt's text TOLD by the authors' own Lean function (tested against real Go, not proved from fmt's source: count such statements apart). THE CARD IS WHAT COUNTS. Prove the row's statement (the work); the ties are given (YbulkayroFmtTie.lean); close each card by the builder's one call (the guide's Derived/Test/ToyasCard.lean, 'card_holds'). Laid BY PROGRAM, IN A SANDBOX (cutbox-door.mjs). By AI agents, Wed Nov 11 2026. No macro, syntax, notation, axiom, sorry.
-/
import Derived.Test.YbulkayroFmtRows
import GoSem.ClaimSeven
namespace Go.Proofs.YbulkayroFmt
namespace Rows

/-- THE TOLD AND TIED CARD OF 'jsonline.LawS2497ARoundTrip'. -/
def lawS2497ARoundTripCard : Claim7 := { stood := { row := lawS2497ARoundTripRow, standIns := [], harness := (true, "48bdb15ffa9bb0271dce38bf25c8151f0af8bf89262fdecfb6efdec462a50c6f"), looks := false }, told := true, laidByText := true, laidKinds := [.called], laidTests := true, laidLooks := .later, goes := false }
def LawS2497ARoundTripToldSaid : Prop := Claim7.holds Ybaf.pinned (.plain (OpenSpec.ofChange lawS2497ARoundTripSpec)) lawS2497ARoundTripCard
/-- ITS FALSE NEIGHBOUR. Refute it at one input. -/
def LawS2497ARoundTripToldWrongFalsely : Prop := Claim7.holds Ybaf.pinned (.plain (OpenSpec.ofChange lawS2497ARoundTripWrong)) lawS2497ARoundTripCard

/-- THE TOLD AND TIED CARD OF 'jsonline.LawS2497AAnyText'. -/
def lawS2497AAnyTextCard : Claim7 := { stood := { row := lawS2497AAnyTextRow, standIns := [], harness := (true, "48bdb15ffa9bb0271dce38bf25c8151f0af8bf89262fdecfb6efdec462a50c6f"), looks := false }, told := true, laidByText := true, laidKinds := [.called], laidTests := true, laidLooks := .later, goes := false }
def LawS2497AAnyTextToldSaid : Prop := Claim7.holds Ybaf.pinned (.plain (OpenSpec.ofChange lawS2497AAnyTextSpec)) lawS2497AAnyTextCard
/-- ITS FALSE NEIGHBOUR. Refute it at one input. -/
def LawS2497AAnyTextToldWrongFalsely : Prop := Claim7.holds Ybaf.pinned (.plain (OpenSpec.ofChange lawS2497AAnyTextWrong)) lawS2497AAnyTextCard

/-- THE TOLD AND TIED CARD OF 'jsonline.LawS2497ANil'. -/
def lawS2497ANilCard : Claim7 := { stood := { row := lawS2497ANilRow, standIns := [], harness := (true, "48bdb15ffa9bb0271dce38bf25c8151f0af8bf89262fdecfb6efdec462a50c6f"), looks := false }, told := true, laidByText := true, laidKinds := [.called], laidTests := true, laidLooks := .later, goes := false }
def LawS2497ANilToldSaid : Prop := Claim7.holds Ybaf.pinned (.plain (OpenSpec.ofChange lawS2497ANilSpec)) lawS2497ANilCard
/-- ITS FALSE NEIGHBOUR. Refute it at one input. -/
def LawS2497ANilToldWrongFalsely : Prop := Claim7.holds Ybaf.pinned (.plain (OpenSpec.ofChange lawS2497ANilWrong)) lawS2497ANilCard
end Rows
end Go.Proofs.YbulkayroFmt
