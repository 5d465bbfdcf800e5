/-
  No cell of these rows narrows 'for every input' (looked for: loops, veiled, ifaces, maps, wideKeys, modest, calm, conditions, laid).
  DERIVED. THE GIVEN ROWS OF THIS SEAT. 2 by the template 'for every input the law returns true; each argument reads behind the call as it read before'; 0 by the template 'total and deterministic' (their statements: YbulkangwTotals.lean).
  GIVEN WITH THE SEED: the statements are not yours to turn. If you find one false, say at which input.
  Laid BY PROGRAM, IN A SANDBOX (cutbox-rows.mjs): the forced cells as the released guide's own fill.sh prints them over the translation f7786e55381512f0… (all of the seat's roots in one cut). By AI agents, Wed Nov 11 2026. No macro, syntax, notation, axiom, sorry.
-/
import Derived.Test.YbulkangwChecked
import GoSem.Claim
import GoSem.ClaimJoined
import GoSem.ClaimMapViews
import Derived.JoinedTies
import Derived.KernelRfl
namespace Go.Proofs.Ybulkangw
/- THE CELL 'sum', in the pinned program and in every row, IS THE sha256 OF THE DUMP (.gsa) THAT YbulkangwProg.lean LOADS. Nothing in Lean hashes anything: it is a label: what it is worth is what the hold of that sum in a sandbox is worth. -/
noncomputable def Yba.pinned : Pinned := { name := "ybulkangw", sum := "f7786e55381512f07f398a2c74028db63d5f063926a569d818d832c9f409e8a7", checked := Yba.checked }
namespace Rows
def none {H : Type} : Left H := { results := [], args := [] }

/-- 'anchor.LawS1946ASpec': WHATEVER THE INPUT: true; the input reads as it did. -/
def lawS1946ASpecSpec : ChangeSpec := { name := "lawS1946ASpec", fn := fun _ => fun
  | [d1, d2, d3, d4] => { results := [.lit (.bool true)], args := [d1, d2, d3, d4] }
  | _ => none }
def lawS1946ASpecRow : OpenClaim := { program := "ybulkangw", sum := "f7786e55381512f07f398a2c74028db63d5f063926a569d818d832c9f409e8a7", func := "example.com/colinea/colinea/anchor.LawS1946ASpec", spec := "lawS1946ASpec", apart := false }
def LawS1946ASpecSaid : Prop := lawS1946ASpecRow.holds Yba.pinned (OpenSpec.ofChange lawS1946ASpecSpec)

/-- ITS FALSE NEIGHBOUR: 'it returns false'. Refute it at one input. -/
def lawS1946ASpecWrong : ChangeSpec := { name := "lawS1946ASpec", fn := fun _ => fun
  | [d1, d2, d3, d4] => { results := [.lit (.bool false)], args := [d1, d2, d3, d4] }
  | _ => none }
def LawS1946ASpecWrongFalsely : Prop := lawS1946ASpecRow.holds Yba.pinned (OpenSpec.ofChange lawS1946ASpecWrong)

/-- 'anchor.LawS1946ASymmetric': WHATEVER THE INPUT: true; the input reads as it did. -/
def lawS1946ASymmetricSpec : ChangeSpec := { name := "lawS1946ASymmetric", fn := fun _ => fun
  | [d1, d2, d3, d4] => { results := [.lit (.bool true)], args := [d1, d2, d3, d4] }
  | _ => none }
def lawS1946ASymmetricRow : OpenClaim := { program := "ybulkangw", sum := "f7786e55381512f07f398a2c74028db63d5f063926a569d818d832c9f409e8a7", func := "example.com/colinea/colinea/anchor.LawS1946ASymmetric", spec := "lawS1946ASymmetric", apart := false }
def LawS1946ASymmetricSaid : Prop := lawS1946ASymmetricRow.holds Yba.pinned (OpenSpec.ofChange lawS1946ASymmetricSpec)

/-- ITS FALSE NEIGHBOUR: 'it returns false'. Refute it at one input. -/
def lawS1946ASymmetricWrong : ChangeSpec := { name := "lawS1946ASymmetric", fn := fun _ => fun
  | [d1, d2, d3, d4] => { results := [.lit (.bool false)], args := [d1, d2, d3, d4] }
  | _ => none }
def LawS1946ASymmetricWrongFalsely : Prop := lawS1946ASymmetricRow.holds Yba.pinned (OpenSpec.ofChange lawS1946ASymmetricWrong)

end Rows
end Go.Proofs.Ybulkangw
