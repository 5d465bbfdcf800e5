/-
  No cell of these rows narrows 'for every input' (looked for: loops, veiled, ifaces, maps, wideKeys, modest, calm, conditions, laid).
  DERIVED. THE GIVEN ROWS OF THIS SEAT. 2 by the template 'for every input the law returns true; each argument reads behind the call as it read before'; 0 by the template 'total and deterministic' (their statements: YbulkanhkTotals.lean).
  GIVEN WITH THE SEED: the statements are not yours to turn. If you find one false, say at which input.
  Laid BY PROGRAM, IN A SANDBOX (cutbox-rows.mjs): the forced cells as the released guide's own fill.sh prints them over the translation a25090870c5ede35… (all of the seat's roots in one cut). By AI agents, Wed Nov 11 2026. No macro, syntax, notation, axiom, sorry.
-/
import Derived.Test.YbulkanhkChecked
import GoSem.Claim
import GoSem.ClaimJoined
import GoSem.ClaimMapViews
import Derived.JoinedTies
import Derived.KernelRfl
namespace Go.Proofs.Ybulkanhk
/- THE CELL 'sum', in the pinned program and in every row, IS THE sha256 OF THE DUMP (.gsa) THAT YbulkanhkProg.lean LOADS. Nothing in Lean hashes anything: it is a label: what it is worth is what the hold of that sum in a sandbox is worth. -/
noncomputable def Yba.pinned : Pinned := { name := "ybulkanhk", sum := "a25090870c5ede3501f812904e40bf40e095029e68527adc6c20ec41bc7a8218", checked := Yba.checked }
namespace Rows
def none {H : Type} : Left H := { results := [], args := [] }

/-- 'horologium.LawS1947CParts': WHATEVER THE INPUT: true; the input reads as it did. -/
def lawS1947CPartsSpec : ChangeSpec := { name := "lawS1947CParts", fn := fun _ => fun
  | [d1, d2] => { results := [.lit (.bool true)], args := [d1, d2] }
  | _ => none }
def lawS1947CPartsRow : OpenClaim := { program := "ybulkanhk", sum := "a25090870c5ede3501f812904e40bf40e095029e68527adc6c20ec41bc7a8218", func := "example.com/horologium/horologium.LawS1947CParts", spec := "lawS1947CParts", apart := false }
def LawS1947CPartsSaid : Prop := lawS1947CPartsRow.holds Yba.pinned (OpenSpec.ofChange lawS1947CPartsSpec)

/-- ITS FALSE NEIGHBOUR: 'it returns false'. Refute it at one input. -/
def lawS1947CPartsWrong : ChangeSpec := { name := "lawS1947CParts", fn := fun _ => fun
  | [d1, d2] => { results := [.lit (.bool false)], args := [d1, d2] }
  | _ => none }
def LawS1947CPartsWrongFalsely : Prop := lawS1947CPartsRow.holds Yba.pinned (OpenSpec.ofChange lawS1947CPartsWrong)

/-- 'horologium.LawS1947CRoundTrip': WHATEVER THE INPUT: true; the input reads as it did. -/
def lawS1947CRoundTripSpec : ChangeSpec := { name := "lawS1947CRoundTrip", fn := fun _ => fun
  | [d1, d2] => { results := [.lit (.bool true)], args := [d1, d2] }
  | _ => none }
def lawS1947CRoundTripRow : OpenClaim := { program := "ybulkanhk", sum := "a25090870c5ede3501f812904e40bf40e095029e68527adc6c20ec41bc7a8218", func := "example.com/horologium/horologium.LawS1947CRoundTrip", spec := "lawS1947CRoundTrip", apart := false }
def LawS1947CRoundTripSaid : Prop := lawS1947CRoundTripRow.holds Yba.pinned (OpenSpec.ofChange lawS1947CRoundTripSpec)

/-- ITS FALSE NEIGHBOUR: 'it returns false'. Refute it at one input. -/
def lawS1947CRoundTripWrong : ChangeSpec := { name := "lawS1947CRoundTrip", fn := fun _ => fun
  | [d1, d2] => { results := [.lit (.bool false)], args := [d1, d2] }
  | _ => none }
def LawS1947CRoundTripWrongFalsely : Prop := lawS1947CRoundTripRow.holds Yba.pinned (OpenSpec.ofChange lawS1947CRoundTripWrong)

end Rows
end Go.Proofs.Ybulkanhk
