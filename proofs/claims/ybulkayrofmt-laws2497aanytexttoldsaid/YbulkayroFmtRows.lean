/-
  NARROWER THAN 'FOR EVERY INPUT', by the rows' own cells (each row's printed sentence says how): LawS2497ARoundTrip: laid · LawS2497AAnyText: laid · LawS2497ANil: laid.
  DERIVED. THE GIVEN ROWS OF THIS SEAT. 3 by the template 'for every input the law returns true; each argument reads behind the call as it read before'; 0 by the template 'total and deterministic' (their statements: YbulkayroFmtTotals.lean).
  GIVEN WITH THE SEED: the statements are not yours to turn. If you find one false, say at which input.
  Laid BY PROGRAM, IN A SANDBOX (cutbox-rows.mjs): the forced cells as the released guide's own fill.sh prints them over the translation d958efb1cdffff27… (all of the seat's roots in one cut). By AI agents, Wed Nov 11 2026. No macro, syntax, notation, axiom, sorry.
-/
import Derived.Test.YbulkayroFmtChecked
import GoSem.Claim
import GoSem.ClaimJoined
import GoSem.ClaimMapViews
import Derived.JoinedTies
import Derived.KernelRfl
namespace Go.Proofs.YbulkayroFmt
/- THE CELL 'sum', in the pinned program and in every row, IS THE sha256 OF THE DUMP (.gsa) THAT YbulkayroFmtProg.lean LOADS. Nothing in Lean hashes anything: it is a label: what it is worth is what the hold of that sum in a sandbox is worth. -/
noncomputable def Ybaf.pinned : Pinned := { name := "ybulkayrofmt", sum := "d958efb1cdffff27415fc8f2666fd41b161cac429b84f46463214041cb09b41b", checked := Ybaf.checked }
namespace Rows
def none {H : Type} : Left H := { results := [], args := [] }

/- WHAT THE LISTED PACKAGE-LEVEL VARIABLES READ AS WHEN THE CALL BEGINS. Each datum BY PROGRAM (the guide's laid-datum.mjs) off the statement by which the dump's own 'gosem.cut.vars' lays the variable. In a bare row this is a premise. The card (YbulkayroFmtCards.lean) ties it to the program's text. -/
def laid_encoding_hex_ErrLength {H : Type} : DataW H := .iface "*errors.errorString" (.ptr (.agg [.lit (.string [101, 110, 99, 111, 100, 105, 110, 103, 47, 104, 101, 120, 58, 32, 111, 100, 100, 32, 108, 101, 110, 103, 116, 104, 32, 104, 101, 120, 32, 115, 116, 114, 105, 110, 103])]))

/-- 'jsonline.LawS2497ARoundTrip': WHATEVER THE INPUT: true; the input reads as it did. -/
def lawS2497ARoundTripSpec : ChangeSpec := { name := "lawS2497ARoundTrip", fn := fun _ => fun
  | [d1, d2] => { results := [.lit (.bool true)], args := [d1, d2] }
  | _ => none }
def lawS2497ARoundTripRow : OpenClaim := { program := "ybulkayrofmt", sum := "d958efb1cdffff27415fc8f2666fd41b161cac429b84f46463214041cb09b41b", func := "example.com/framewright/framewright/internal/jsonline.LawS2497ARoundTrip", spec := "lawS2497ARoundTrip", stops := ["fmt.errorf, its operands' methods called", "fmt.Sprintf"], inPlace := ["fmt.errorf"], unfollowed := true, recurses := true, named := ["encoding/hex.ErrLength"], apart := false, laid := [("encoding/hex.ErrLength", laid_encoding_hex_ErrLength)] }
/-- NO THEOREM (fmt's text is open here; it may be false): for the released tool's asking of the row's closed facts alone. THE STATEMENT IS 'LawS2497ARoundTripToldSaid' (YbulkayroFmtCards.lean). -/
def LawS2497ARoundTripFormAsk : Prop := lawS2497ARoundTripRow.holds Ybaf.pinned (OpenSpec.ofChange lawS2497ARoundTripSpec)

/-- ITS FALSE NEIGHBOUR: 'it returns false'. Refute it at one input. -/
def lawS2497ARoundTripWrong : ChangeSpec := { name := "lawS2497ARoundTrip", fn := fun _ => fun
  | [d1, d2] => { results := [.lit (.bool false)], args := [d1, d2] }
  | _ => none }
def LawS2497ARoundTripWrongFormAsk : Prop := lawS2497ARoundTripRow.holds Ybaf.pinned (OpenSpec.ofChange lawS2497ARoundTripWrong)

/-- 'jsonline.LawS2497AAnyText': WHATEVER THE INPUT: true; the input reads as it did. -/
def lawS2497AAnyTextSpec : ChangeSpec := { name := "lawS2497AAnyText", fn := fun _ => fun
  | [d] => { results := [.lit (.bool true)], args := [d] }
  | _ => none }
def lawS2497AAnyTextRow : OpenClaim := { program := "ybulkayrofmt", sum := "d958efb1cdffff27415fc8f2666fd41b161cac429b84f46463214041cb09b41b", func := "example.com/framewright/framewright/internal/jsonline.LawS2497AAnyText", spec := "lawS2497AAnyText", stops := ["fmt.errorf, its operands' methods called", "fmt.Sprintf"], inPlace := ["fmt.errorf"], unfollowed := true, recurses := true, named := ["encoding/hex.ErrLength"], apart := false, laid := [("encoding/hex.ErrLength", laid_encoding_hex_ErrLength)] }
/-- NO THEOREM (fmt's text is open here; it may be false): for the released tool's asking of the row's closed facts alone. THE STATEMENT IS 'LawS2497AAnyTextToldSaid' (YbulkayroFmtCards.lean). -/
def LawS2497AAnyTextFormAsk : Prop := lawS2497AAnyTextRow.holds Ybaf.pinned (OpenSpec.ofChange lawS2497AAnyTextSpec)

/-- ITS FALSE NEIGHBOUR: 'it returns false'. Refute it at one input. -/
def lawS2497AAnyTextWrong : ChangeSpec := { name := "lawS2497AAnyText", fn := fun _ => fun
  | [d] => { results := [.lit (.bool false)], args := [d] }
  | _ => none }
def LawS2497AAnyTextWrongFormAsk : Prop := lawS2497AAnyTextRow.holds Ybaf.pinned (OpenSpec.ofChange lawS2497AAnyTextWrong)

/-- 'jsonline.LawS2497ANil': WHATEVER THE INPUT: true; the input reads as it did. -/
def lawS2497ANilSpec : ChangeSpec := { name := "lawS2497ANil", fn := fun _ => fun
  | [] => { results := [.lit (.bool true)], args := [] }
  | _ => none }
def lawS2497ANilRow : OpenClaim := { program := "ybulkayrofmt", sum := "d958efb1cdffff27415fc8f2666fd41b161cac429b84f46463214041cb09b41b", func := "example.com/framewright/framewright/internal/jsonline.LawS2497ANil", spec := "lawS2497ANil", stops := ["fmt.errorf, its operands' methods called", "fmt.Sprintf"], inPlace := ["fmt.errorf"], unfollowed := true, recurses := true, named := ["encoding/hex.ErrLength"], apart := false, laid := [("encoding/hex.ErrLength", laid_encoding_hex_ErrLength)] }
/-- NO THEOREM (fmt's text is open here; it may be false): for the released tool's asking of the row's closed facts alone. THE STATEMENT IS 'LawS2497ANilToldSaid' (YbulkayroFmtCards.lean). -/
def LawS2497ANilFormAsk : Prop := lawS2497ANilRow.holds Ybaf.pinned (OpenSpec.ofChange lawS2497ANilSpec)

/-- ITS FALSE NEIGHBOUR: 'it returns false'. Refute it at one input. -/
def lawS2497ANilWrong : ChangeSpec := { name := "lawS2497ANil", fn := fun _ => fun
  | [] => { results := [.lit (.bool false)], args := [] }
  | _ => none }
def LawS2497ANilWrongFormAsk : Prop := lawS2497ANilRow.holds Ybaf.pinned (OpenSpec.ofChange lawS2497ANilWrong)

end Rows
end Go.Proofs.YbulkayroFmt
