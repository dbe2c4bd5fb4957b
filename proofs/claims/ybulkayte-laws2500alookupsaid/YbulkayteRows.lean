/-
  No cell of these rows narrows 'for every input' (looked for: loops, veiled, ifaces, maps, wideKeys, modest, calm, conditions, laid).
  DERIVED. THE GIVEN ROWS OF THIS SEAT. 2 by the template 'for every input the law returns true; each argument reads behind the call as it read before'; 0 by the template 'total and deterministic' (their statements: YbulkayteTotals.lean).
  GIVEN WITH THE SEED: the statements are not yours to turn. If you find one false, say at which input.
  Laid BY PROGRAM, IN A SANDBOX (cutbox-rows.mjs): the forced cells as the released guide's own fill.sh prints them over the translation 7c3ff29f27a06b59… (all of the seat's roots in one cut). By AI agents, Wed Nov 11 2026. No macro, syntax, notation, axiom, sorry.
-/
import Derived.Test.YbulkayteChecked
import GoSem.Claim
import GoSem.ClaimJoined
import GoSem.ClaimMapViews
import Derived.JoinedTies
import Derived.KernelRfl
namespace Go.Proofs.Ybulkayte
/- THE CELL 'sum', in the pinned program and in every row, IS THE sha256 OF THE DUMP (.gsa) THAT YbulkayteProg.lean LOADS. Nothing in Lean hashes anything: it is a label: what it is worth is what the hold of that sum in a sandbox is worth. -/
noncomputable def Yba.pinned : Pinned := { name := "ybulkayte", sum := "7c3ff29f27a06b5984d761a052f0b73267098cefb0e730d0a2e3a9981fd5af84", checked := Yba.checked }
namespace Rows
def none {H : Type} : Left H := { results := [], args := [] }

/-- 'kv.LawS2500ALookup': WHATEVER THE INPUT: true; the input reads as it did. -/
def lawS2500ALookupSpec : ChangeSpec := { name := "lawS2500ALookup", fn := fun _ => fun
  | [d1, d2, d3, d4, d5] => { results := [.lit (.bool true)], args := [d1, d2, d3, d4, d5] }
  | _ => none }
def lawS2500ALookupRow : OpenClaim := { program := "ybulkayte", sum := "7c3ff29f27a06b5984d761a052f0b73267098cefb0e730d0a2e3a9981fd5af84", func := "example.com/quorate/quorate/internal/kv.LawS2500ALookup", spec := "lawS2500ALookup", unfollowed := true, recurses := true, apart := false }
def LawS2500ALookupSaid : Prop := lawS2500ALookupRow.holds Yba.pinned (OpenSpec.ofChange lawS2500ALookupSpec)

/-- ITS FALSE NEIGHBOUR: 'it returns false'. Refute it at one input. -/
def lawS2500ALookupWrong : ChangeSpec := { name := "lawS2500ALookup", fn := fun _ => fun
  | [d1, d2, d3, d4, d5] => { results := [.lit (.bool false)], args := [d1, d2, d3, d4, d5] }
  | _ => none }
def LawS2500ALookupWrongFalsely : Prop := lawS2500ALookupRow.holds Yba.pinned (OpenSpec.ofChange lawS2500ALookupWrong)

/-- 'protocol.LawS2500COrderRead': WHATEVER THE INPUT: true; the input reads as it did. -/
def lawS2500COrderReadSpec : ChangeSpec := { name := "lawS2500COrderRead", fn := fun _ => fun
  | [d1, d2, d3, d4, d5, d6] => { results := [.lit (.bool true)], args := [d1, d2, d3, d4, d5, d6] }
  | _ => none }
def lawS2500COrderReadRow : OpenClaim := { program := "ybulkayte", sum := "7c3ff29f27a06b5984d761a052f0b73267098cefb0e730d0a2e3a9981fd5af84", func := "example.com/quorate/quorate/internal/protocol.LawS2500COrderRead", spec := "lawS2500COrderRead", unfollowed := true, recurses := true, apart := false }
def LawS2500COrderReadSaid : Prop := lawS2500COrderReadRow.holds Yba.pinned (OpenSpec.ofChange lawS2500COrderReadSpec)

/-- ITS FALSE NEIGHBOUR: 'it returns false'. Refute it at one input. -/
def lawS2500COrderReadWrong : ChangeSpec := { name := "lawS2500COrderRead", fn := fun _ => fun
  | [d1, d2, d3, d4, d5, d6] => { results := [.lit (.bool false)], args := [d1, d2, d3, d4, d5, d6] }
  | _ => none }
def LawS2500COrderReadWrongFalsely : Prop := lawS2500COrderReadRow.holds Yba.pinned (OpenSpec.ofChange lawS2500COrderReadWrong)

end Rows
end Go.Proofs.Ybulkayte
