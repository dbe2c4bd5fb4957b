/-
  No cell of these rows narrows 'for every input' (looked for: loops, veiled, ifaces, maps, wideKeys, modest, calm, conditions, laid).
  DERIVED. THE GIVEN ROWS OF THIS SEAT. 1 by the template 'for every input the law returns true; each argument reads behind the call as it read before'; 0 by the template 'total and deterministic' (their statements: YbulkaywkTotals.lean).
  GIVEN WITH THE SEED: the statements are not yours to turn. If you find one false, say at which input.
  Laid BY PROGRAM, IN A SANDBOX (cutbox-rows.mjs): the forced cells as the released guide's own fill.sh prints them over the translation 1d185875b4de2377… (all of the seat's roots in one cut). By AI agents, Wed Nov 11 2026. No macro, syntax, notation, axiom, sorry.
-/
import Derived.Test.YbulkaywkChecked
import GoSem.Claim
import GoSem.ClaimJoined
import GoSem.ClaimMapViews
import Derived.JoinedTies
import Derived.KernelRfl
namespace Go.Proofs.Ybulkaywk
/- THE CELL 'sum', in the pinned program and in every row, IS THE sha256 OF THE DUMP (.gsa) THAT YbulkaywkProg.lean LOADS. Nothing in Lean hashes anything: it is a label: what it is worth is what the hold of that sum in a sandbox is worth. -/
noncomputable def Yba.pinned : Pinned := { name := "ybulkaywk", sum := "1d185875b4de2377323ce427adebfd29cd9940cc731628153be538450fd27dae", checked := Yba.checked }
namespace Rows
def none {H : Type} : Left H := { results := [], args := [] }

/-- 'modules.LawS2506ASet': WHATEVER THE INPUT: true; the input reads as it did. -/
def lawS2506ASetSpec : ChangeSpec := { name := "lawS2506ASet", fn := fun _ => fun
  | [d1, d2] => { results := [.lit (.bool true)], args := [d1, d2] }
  | _ => none }
def lawS2506ASetRow : OpenClaim := { program := "ybulkaywk", sum := "1d185875b4de2377323ce427adebfd29cd9940cc731628153be538450fd27dae", func := "example.com/tracewright/tracewright/modules.LawS2506ASet", spec := "lawS2506ASet", apart := false }
def LawS2506ASetSaid : Prop := lawS2506ASetRow.holds Yba.pinned (OpenSpec.ofChange lawS2506ASetSpec)

/-- ITS FALSE NEIGHBOUR: 'it returns false'. Refute it at one input. -/
def lawS2506ASetWrong : ChangeSpec := { name := "lawS2506ASet", fn := fun _ => fun
  | [d1, d2] => { results := [.lit (.bool false)], args := [d1, d2] }
  | _ => none }
def LawS2506ASetWrongFalsely : Prop := lawS2506ASetRow.holds Yba.pinned (OpenSpec.ofChange lawS2506ASetWrong)

end Rows
end Go.Proofs.Ybulkaywk
