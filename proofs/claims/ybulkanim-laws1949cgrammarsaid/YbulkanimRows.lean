/-
  No cell of these rows narrows 'for every input' (looked for: loops, veiled, ifaces, maps, wideKeys, modest, calm, conditions, laid).
  DERIVED. THE GIVEN ROWS OF THIS SEAT. 1 by the template 'for every input the law returns true; each argument reads behind the call as it read before'; 0 by the template 'total and deterministic' (their statements: YbulkanimTotals.lean).
  GIVEN WITH THE SEED: the statements are not yours to turn. If you find one false, say at which input.
  Laid BY PROGRAM, IN A SANDBOX (cutbox-rows.mjs): the forced cells as the released guide's own fill.sh prints them over the translation 4599a4780fa3e17a… (all of the seat's roots in one cut). By AI agents, Wed Nov 11 2026. No macro, syntax, notation, axiom, sorry.
-/
import Derived.Test.YbulkanimChecked
import GoSem.Claim
import GoSem.ClaimJoined
import GoSem.ClaimMapViews
import Derived.JoinedTies
import Derived.KernelRfl
namespace Go.Proofs.Ybulkanim
/- THE CELL 'sum', in the pinned program and in every row, IS THE sha256 OF THE DUMP (.gsa) THAT YbulkanimProg.lean LOADS. Nothing in Lean hashes anything: it is a label: what it is worth is what the hold of that sum in a sandbox is worth. -/
noncomputable def Yba.pinned : Pinned := { name := "ybulkanim", sum := "4599a4780fa3e17a494366c4a6e5f9d27dd72ff8fb642feceb4f626718e998e2", checked := Yba.checked }
namespace Rows
def none {H : Type} : Left H := { results := [], args := [] }

/-- 'jsonscan.LawS1949CGrammar': WHATEVER THE INPUT: true; the input reads as it did. -/
def lawS1949CGrammarSpec : ChangeSpec := { name := "lawS1949CGrammar", fn := fun _ => fun
  | [d1, d2, d3, d4] => { results := [.lit (.bool true)], args := [d1, d2, d3, d4] }
  | _ => none }
def lawS1949CGrammarRow : OpenClaim := { program := "ybulkanim", sum := "4599a4780fa3e17a494366c4a6e5f9d27dd72ff8fb642feceb4f626718e998e2", func := "example.com/turnwatch/turnwatch/internal/jsonscan.LawS1949CGrammar", spec := "lawS1949CGrammar", unfollowed := true, recurses := true, apart := false }
def LawS1949CGrammarSaid : Prop := lawS1949CGrammarRow.holds Yba.pinned (OpenSpec.ofChange lawS1949CGrammarSpec)

/-- ITS FALSE NEIGHBOUR: 'it returns false'. Refute it at one input. -/
def lawS1949CGrammarWrong : ChangeSpec := { name := "lawS1949CGrammar", fn := fun _ => fun
  | [d1, d2, d3, d4] => { results := [.lit (.bool false)], args := [d1, d2, d3, d4] }
  | _ => none }
def LawS1949CGrammarWrongFalsely : Prop := lawS1949CGrammarRow.holds Yba.pinned (OpenSpec.ofChange lawS1949CGrammarWrong)

end Rows
end Go.Proofs.Ybulkanim
