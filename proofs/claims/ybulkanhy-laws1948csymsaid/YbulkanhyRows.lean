/-
  No cell of these rows narrows 'for every input' (looked for: loops, veiled, ifaces, maps, wideKeys, modest, calm, conditions, laid).
  DERIVED. THE GIVEN ROWS OF THIS SEAT. 2 by the template 'for every input the law returns true; each argument reads behind the call as it read before'; 0 by the template 'total and deterministic' (their statements: YbulkanhyTotals.lean).
  GIVEN WITH THE SEED: the statements are not yours to turn. If you find one false, say at which input.
  Laid BY PROGRAM, IN A SANDBOX (cutbox-rows.mjs): the forced cells as the released guide's own fill.sh prints them over the translation 231a0d8ad80d82c2… (all of the seat's roots in one cut). By AI agents, Wed Nov 11 2026. No macro, syntax, notation, axiom, sorry.
-/
import Derived.Test.YbulkanhyChecked
import GoSem.Claim
import GoSem.ClaimJoined
import GoSem.ClaimMapViews
import Derived.JoinedTies
import Derived.KernelRfl
namespace Go.Proofs.Ybulkanhy
/- THE CELL 'sum', in the pinned program and in every row, IS THE sha256 OF THE DUMP (.gsa) THAT YbulkanhyProg.lean LOADS. Nothing in Lean hashes anything: it is a label: what it is worth is what the hold of that sum in a sandbox is worth. -/
noncomputable def Yba.pinned : Pinned := { name := "ybulkanhy", sum := "231a0d8ad80d82c26c38ad0a1fe7db8ca8e0a88fd1d231bedee8bc721069bb86", checked := Yba.checked }
namespace Rows
def none {H : Type} : Left H := { results := [], args := [] }

/-- 'client.LawS1948CMin': WHATEVER THE INPUT: true; the input reads as it did. -/
def lawS1948CMinSpec : ChangeSpec := { name := "lawS1948CMin", fn := fun _ => fun
  | [d1, d2] => { results := [.lit (.bool true)], args := [d1, d2] }
  | _ => none }
def lawS1948CMinRow : OpenClaim := { program := "ybulkanhy", sum := "231a0d8ad80d82c26c38ad0a1fe7db8ca8e0a88fd1d231bedee8bc721069bb86", func := "example.com/fencepost/fencepost/client.LawS1948CMin", spec := "lawS1948CMin", apart := false }
def LawS1948CMinSaid : Prop := lawS1948CMinRow.holds Yba.pinned (OpenSpec.ofChange lawS1948CMinSpec)

/-- ITS FALSE NEIGHBOUR: 'it returns false'. Refute it at one input. -/
def lawS1948CMinWrong : ChangeSpec := { name := "lawS1948CMin", fn := fun _ => fun
  | [d1, d2] => { results := [.lit (.bool false)], args := [d1, d2] }
  | _ => none }
def LawS1948CMinWrongFalsely : Prop := lawS1948CMinRow.holds Yba.pinned (OpenSpec.ofChange lawS1948CMinWrong)

/-- 'client.LawS1948CSym': WHATEVER THE INPUT: true; the input reads as it did. -/
def lawS1948CSymSpec : ChangeSpec := { name := "lawS1948CSym", fn := fun _ => fun
  | [d1, d2] => { results := [.lit (.bool true)], args := [d1, d2] }
  | _ => none }
def lawS1948CSymRow : OpenClaim := { program := "ybulkanhy", sum := "231a0d8ad80d82c26c38ad0a1fe7db8ca8e0a88fd1d231bedee8bc721069bb86", func := "example.com/fencepost/fencepost/client.LawS1948CSym", spec := "lawS1948CSym", apart := false }
def LawS1948CSymSaid : Prop := lawS1948CSymRow.holds Yba.pinned (OpenSpec.ofChange lawS1948CSymSpec)

/-- ITS FALSE NEIGHBOUR: 'it returns false'. Refute it at one input. -/
def lawS1948CSymWrong : ChangeSpec := { name := "lawS1948CSym", fn := fun _ => fun
  | [d1, d2] => { results := [.lit (.bool false)], args := [d1, d2] }
  | _ => none }
def LawS1948CSymWrongFalsely : Prop := lawS1948CSymRow.holds Yba.pinned (OpenSpec.ofChange lawS1948CSymWrong)

end Rows
end Go.Proofs.Ybulkanhy
