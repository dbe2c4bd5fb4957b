/-
  No cell of these rows narrows 'for every input' (looked for: loops, veiled, ifaces, maps, wideKeys, modest, calm, conditions, laid).
  DERIVED. THE GIVEN ROWS OF THIS SEAT. 2 by the template 'for every input the law returns true; each argument reads behind the call as it read before'; 0 by the template 'total and deterministic' (their statements: YbulkayraTotals.lean).
  GIVEN WITH THE SEED: the statements are not yours to turn. If you find one false, say at which input.
  Laid BY PROGRAM, IN A SANDBOX (cutbox-rows.mjs): the forced cells as the released guide's own fill.sh prints them over the translation ec23a386be04bc8b… (all of the seat's roots in one cut). By AI agents, Wed Nov 11 2026. No macro, syntax, notation, axiom, sorry.
-/
import Derived.Test.YbulkayraChecked
import GoSem.Claim
import GoSem.ClaimJoined
import GoSem.ClaimMapViews
import Derived.JoinedTies
import Derived.KernelRfl
namespace Go.Proofs.Ybulkayra
/- THE CELL 'sum', in the pinned program and in every row, IS THE sha256 OF THE DUMP (.gsa) THAT YbulkayraProg.lean LOADS. Nothing in Lean hashes anything: it is a label: what it is worth is what the hold of that sum in a sandbox is worth. -/
noncomputable def Yba.pinned : Pinned := { name := "ybulkayra", sum := "ec23a386be04bc8b21370fde6ee5cbd42dd5b0e874a256c8950c5703e4875970", checked := Yba.checked }
namespace Rows
def none {H : Type} : Left H := { results := [], args := [] }

/-- 'prog.LawS2496BCommon': WHATEVER THE INPUT: true; the input reads as it did. -/
def lawS2496BCommonSpec : ChangeSpec := { name := "lawS2496BCommon", fn := fun _ => fun
  | [d1, d2] => { results := [.lit (.bool true)], args := [d1, d2] }
  | _ => none }
def lawS2496BCommonRow : OpenClaim := { program := "ybulkayra", sum := "ec23a386be04bc8b21370fde6ee5cbd42dd5b0e874a256c8950c5703e4875970", func := "example.com/tautline/tautline/internal/prog.LawS2496BCommon", spec := "lawS2496BCommon", recurses := true, apart := false }
def LawS2496BCommonSaid : Prop := lawS2496BCommonRow.holds Yba.pinned (OpenSpec.ofChange lawS2496BCommonSpec)

/-- ITS FALSE NEIGHBOUR: 'it returns false'. Refute it at one input. -/
def lawS2496BCommonWrong : ChangeSpec := { name := "lawS2496BCommon", fn := fun _ => fun
  | [d1, d2] => { results := [.lit (.bool false)], args := [d1, d2] }
  | _ => none }
def LawS2496BCommonWrongFalsely : Prop := lawS2496BCommonRow.holds Yba.pinned (OpenSpec.ofChange lawS2496BCommonWrong)

/-- 'prog.LawS2496CLiteralRepeat': WHATEVER THE INPUT: true; the input reads as it did. -/
def lawS2496CLiteralRepeatSpec : ChangeSpec := { name := "lawS2496CLiteralRepeat", fn := fun _ => fun
  | [d1, d2, d3, d4, d5] => { results := [.lit (.bool true)], args := [d1, d2, d3, d4, d5] }
  | _ => none }
def lawS2496CLiteralRepeatRow : OpenClaim := { program := "ybulkayra", sum := "ec23a386be04bc8b21370fde6ee5cbd42dd5b0e874a256c8950c5703e4875970", func := "example.com/tautline/tautline/internal/prog.LawS2496CLiteralRepeat", spec := "lawS2496CLiteralRepeat", recurses := true, apart := false }
def LawS2496CLiteralRepeatSaid : Prop := lawS2496CLiteralRepeatRow.holds Yba.pinned (OpenSpec.ofChange lawS2496CLiteralRepeatSpec)

/-- ITS FALSE NEIGHBOUR: 'it returns false'. Refute it at one input. -/
def lawS2496CLiteralRepeatWrong : ChangeSpec := { name := "lawS2496CLiteralRepeat", fn := fun _ => fun
  | [d1, d2, d3, d4, d5] => { results := [.lit (.bool false)], args := [d1, d2, d3, d4, d5] }
  | _ => none }
def LawS2496CLiteralRepeatWrongFalsely : Prop := lawS2496CLiteralRepeatRow.holds Yba.pinned (OpenSpec.ofChange lawS2496CLiteralRepeatWrong)

end Rows
end Go.Proofs.Ybulkayra
