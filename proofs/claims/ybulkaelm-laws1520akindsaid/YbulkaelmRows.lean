/-
  No cell of these rows narrows 'for every input' (looked for: loops, veiled, ifaces, maps, wideKeys, modest, calm, conditions, laid).
  DERIVED. THE GIVEN ROWS OF THIS SEAT. 1 by the template 'for every input the law returns true; each argument reads behind the call as it read before'; 0 by the template 'total and deterministic' (their statements: YbulkaelmTotals.lean).
  GIVEN WITH THE SEED: the statements are not yours to turn. If you find one false, say at which input.
  Laid BY PROGRAM, IN A SANDBOX (cutbox-rows.mjs): the forced cells as the released guide's own fill.sh prints them over the translation e23e8984d3290e25… (all of the seat's roots in one cut). By AI agents, Wed Nov 11 2026. No macro, syntax, notation, axiom, sorry.
-/
import Derived.Test.YbulkaelmChecked
import GoSem.Claim
import GoSem.ClaimJoined
import GoSem.ClaimMapViews
import Derived.JoinedTies
import Derived.KernelRfl
namespace Go.Proofs.Ybulkaelm
/- THE CELL 'sum', in the pinned program and in every row, IS THE sha256 OF THE DUMP (.gsa) THAT YbulkaelmProg.lean LOADS. Nothing in Lean hashes anything: it is a label: what it is worth is what the hold of that sum in a sandbox is worth. -/
noncomputable def Yba.pinned : Pinned := { name := "ybulkaelm", sum := "e23e8984d3290e25fa38ce29c5ae582005baf68d339d1fc696a9ada6d242c1f4", checked := Yba.checked }
namespace Rows
def none {H : Type} : Left H := { results := [], args := [] }

/-- 'lint.LawS1520AKind': WHATEVER THE INPUT: true; the input reads as it did. -/
def lawS1520AKindSpec : ChangeSpec := { name := "lawS1520AKind", fn := fun _ => fun
  | [d1, d2, d3] => { results := [.lit (.bool true)], args := [d1, d2, d3] }
  | _ => none }
def lawS1520AKindRow : OpenClaim := { program := "ybulkaelm", sum := "e23e8984d3290e25fa38ce29c5ae582005baf68d339d1fc696a9ada6d242c1f4", func := "example.com/profilist/profilist/lint.LawS1520AKind", spec := "lawS1520AKind", apart := false }
def LawS1520AKindSaid : Prop := lawS1520AKindRow.holds Yba.pinned (OpenSpec.ofChange lawS1520AKindSpec)

/-- ITS FALSE NEIGHBOUR: 'it returns false'. Refute it at one input. -/
def lawS1520AKindWrong : ChangeSpec := { name := "lawS1520AKind", fn := fun _ => fun
  | [d1, d2, d3] => { results := [.lit (.bool false)], args := [d1, d2, d3] }
  | _ => none }
def LawS1520AKindWrongFalsely : Prop := lawS1520AKindRow.holds Yba.pinned (OpenSpec.ofChange lawS1520AKindWrong)

end Rows
end Go.Proofs.Ybulkaelm
