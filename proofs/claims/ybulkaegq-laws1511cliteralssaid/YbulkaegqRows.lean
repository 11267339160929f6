/-
  No cell of these rows narrows 'for every input' (looked for: loops, veiled, ifaces, maps, wideKeys, modest, calm, conditions, laid).
  DERIVED. THE GIVEN ROWS OF THIS SEAT. 8 by the template 'for every input the law returns true; each argument reads behind the call as it read before'; 0 by the template 'total and deterministic' (their statements: YbulkaegqTotals.lean).
  GIVEN WITH THE SEED: the statements are not yours to turn. If you find one false, say at which input.
  Laid BY PROGRAM, IN A SANDBOX (cutbox-rows.mjs): the forced cells as the released guide's own fill.sh prints them over the translation b2f7db145a601f74… (all of the seat's roots in one cut). By AI agents, Wed Nov 11 2026. No macro, syntax, notation, axiom, sorry.
-/
import Derived.Test.YbulkaegqChecked
import GoSem.Claim
import GoSem.ClaimJoined
import GoSem.ClaimMapViews
import Derived.JoinedTies
import Derived.KernelRfl
namespace Go.Proofs.Ybulkaegq
/- THE CELL 'sum', in the pinned program and in every row, IS THE sha256 OF THE DUMP (.gsa) THAT YbulkaegqProg.lean LOADS. Nothing in Lean hashes anything: it is a label: what it is worth is what the hold of that sum in a sandbox is worth. -/
noncomputable def Yba.pinned : Pinned := { name := "ybulkaegq", sum := "b2f7db145a601f7442323c3bd1124a56c58a46033664d97cbd3b3ebf9ac9ced9", checked := Yba.checked }
namespace Rows
def none {H : Type} : Left H := { results := [], args := [] }

/-- 'precedes.LawS1511ACompare': WHATEVER THE INPUT: true; the input reads as it did. -/
def lawS1511ACompareSpec : ChangeSpec := { name := "lawS1511ACompare", fn := fun _ => fun
  | [d1, d2] => { results := [.lit (.bool true)], args := [d1, d2] }
  | _ => none }
def lawS1511ACompareRow : OpenClaim := { program := "ybulkaegq", sum := "b2f7db145a601f7442323c3bd1124a56c58a46033664d97cbd3b3ebf9ac9ced9", func := "example.com/precedes/precedes.LawS1511ACompare", spec := "lawS1511ACompare", inPlace := ["internal/bytealg.Compare"], apart := false }
def LawS1511ACompareSaid : Prop := lawS1511ACompareRow.holds Yba.pinned (OpenSpec.ofChange lawS1511ACompareSpec)

/-- ITS FALSE NEIGHBOUR: 'it returns false'. Refute it at one input. -/
def lawS1511ACompareWrong : ChangeSpec := { name := "lawS1511ACompare", fn := fun _ => fun
  | [d1, d2] => { results := [.lit (.bool false)], args := [d1, d2] }
  | _ => none }
def LawS1511ACompareWrongFalsely : Prop := lawS1511ACompareRow.holds Yba.pinned (OpenSpec.ofChange lawS1511ACompareWrong)

/-- 'precedes.LawS1511ATrichotomy': WHATEVER THE INPUT: true; the input reads as it did. -/
def lawS1511ATrichotomySpec : ChangeSpec := { name := "lawS1511ATrichotomy", fn := fun _ => fun
  | [d1, d2] => { results := [.lit (.bool true)], args := [d1, d2] }
  | _ => none }
def lawS1511ATrichotomyRow : OpenClaim := { program := "ybulkaegq", sum := "b2f7db145a601f7442323c3bd1124a56c58a46033664d97cbd3b3ebf9ac9ced9", func := "example.com/precedes/precedes.LawS1511ATrichotomy", spec := "lawS1511ATrichotomy", apart := false }
def LawS1511ATrichotomySaid : Prop := lawS1511ATrichotomyRow.holds Yba.pinned (OpenSpec.ofChange lawS1511ATrichotomySpec)

/-- ITS FALSE NEIGHBOUR: 'it returns false'. Refute it at one input. -/
def lawS1511ATrichotomyWrong : ChangeSpec := { name := "lawS1511ATrichotomy", fn := fun _ => fun
  | [d1, d2] => { results := [.lit (.bool false)], args := [d1, d2] }
  | _ => none }
def LawS1511ATrichotomyWrongFalsely : Prop := lawS1511ATrichotomyRow.holds Yba.pinned (OpenSpec.ofChange lawS1511ATrichotomyWrong)

/-- 'precedes.LawS1511APrefix': WHATEVER THE INPUT: true; the input reads as it did. -/
def lawS1511APrefixSpec : ChangeSpec := { name := "lawS1511APrefix", fn := fun _ => fun
  | [d1, d2] => { results := [.lit (.bool true)], args := [d1, d2] }
  | _ => none }
def lawS1511APrefixRow : OpenClaim := { program := "ybulkaegq", sum := "b2f7db145a601f7442323c3bd1124a56c58a46033664d97cbd3b3ebf9ac9ced9", func := "example.com/precedes/precedes.LawS1511APrefix", spec := "lawS1511APrefix", apart := false }
def LawS1511APrefixSaid : Prop := lawS1511APrefixRow.holds Yba.pinned (OpenSpec.ofChange lawS1511APrefixSpec)

/-- ITS FALSE NEIGHBOUR: 'it returns false'. Refute it at one input. -/
def lawS1511APrefixWrong : ChangeSpec := { name := "lawS1511APrefix", fn := fun _ => fun
  | [d1, d2] => { results := [.lit (.bool false)], args := [d1, d2] }
  | _ => none }
def LawS1511APrefixWrongFalsely : Prop := lawS1511APrefixRow.holds Yba.pinned (OpenSpec.ofChange lawS1511APrefixWrong)

/-- 'precedes.LawS1511BCount': WHATEVER THE INPUT: true; the input reads as it did. -/
def lawS1511BCountSpec : ChangeSpec := { name := "lawS1511BCount", fn := fun _ => fun
  | [d1, d2] => { results := [.lit (.bool true)], args := [d1, d2] }
  | _ => none }
def lawS1511BCountRow : OpenClaim := { program := "ybulkaegq", sum := "b2f7db145a601f7442323c3bd1124a56c58a46033664d97cbd3b3ebf9ac9ced9", func := "example.com/precedes/precedes.LawS1511BCount", spec := "lawS1511BCount", apart := false }
def LawS1511BCountSaid : Prop := lawS1511BCountRow.holds Yba.pinned (OpenSpec.ofChange lawS1511BCountSpec)

/-- ITS FALSE NEIGHBOUR: 'it returns false'. Refute it at one input. -/
def lawS1511BCountWrong : ChangeSpec := { name := "lawS1511BCount", fn := fun _ => fun
  | [d1, d2] => { results := [.lit (.bool false)], args := [d1, d2] }
  | _ => none }
def LawS1511BCountWrongFalsely : Prop := lawS1511BCountRow.holds Yba.pinned (OpenSpec.ofChange lawS1511BCountWrong)

/-- 'precedes.LawS1511BSymmetric': WHATEVER THE INPUT: true; the input reads as it did. -/
def lawS1511BSymmetricSpec : ChangeSpec := { name := "lawS1511BSymmetric", fn := fun _ => fun
  | [d1, d2] => { results := [.lit (.bool true)], args := [d1, d2] }
  | _ => none }
def lawS1511BSymmetricRow : OpenClaim := { program := "ybulkaegq", sum := "b2f7db145a601f7442323c3bd1124a56c58a46033664d97cbd3b3ebf9ac9ced9", func := "example.com/precedes/precedes.LawS1511BSymmetric", spec := "lawS1511BSymmetric", apart := false }
def LawS1511BSymmetricSaid : Prop := lawS1511BSymmetricRow.holds Yba.pinned (OpenSpec.ofChange lawS1511BSymmetricSpec)

/-- ITS FALSE NEIGHBOUR: 'it returns false'. Refute it at one input. -/
def lawS1511BSymmetricWrong : ChangeSpec := { name := "lawS1511BSymmetric", fn := fun _ => fun
  | [d1, d2] => { results := [.lit (.bool false)], args := [d1, d2] }
  | _ => none }
def LawS1511BSymmetricWrongFalsely : Prop := lawS1511BSymmetricRow.holds Yba.pinned (OpenSpec.ofChange lawS1511BSymmetricWrong)

/-- 'precedes.LawS1511CLiterals': WHATEVER THE INPUT: true; the input reads as it did. -/
def lawS1511CLiteralsSpec : ChangeSpec := { name := "lawS1511CLiterals", fn := fun _ => fun
  | [d1, d2] => { results := [.lit (.bool true)], args := [d1, d2] }
  | _ => none }
def lawS1511CLiteralsRow : OpenClaim := { program := "ybulkaegq", sum := "b2f7db145a601f7442323c3bd1124a56c58a46033664d97cbd3b3ebf9ac9ced9", func := "example.com/precedes/precedes.LawS1511CLiterals", spec := "lawS1511CLiterals", recurses := true, apart := false }
def LawS1511CLiteralsSaid : Prop := lawS1511CLiteralsRow.holds Yba.pinned (OpenSpec.ofChange lawS1511CLiteralsSpec)

/-- ITS FALSE NEIGHBOUR: 'it returns false'. Refute it at one input. -/
def lawS1511CLiteralsWrong : ChangeSpec := { name := "lawS1511CLiterals", fn := fun _ => fun
  | [d1, d2] => { results := [.lit (.bool false)], args := [d1, d2] }
  | _ => none }
def LawS1511CLiteralsWrongFalsely : Prop := lawS1511CLiteralsRow.holds Yba.pinned (OpenSpec.ofChange lawS1511CLiteralsWrong)

/-- 'precedes.LawS1511CRepeat': WHATEVER THE INPUT: true; the input reads as it did. -/
def lawS1511CRepeatSpec : ChangeSpec := { name := "lawS1511CRepeat", fn := fun _ => fun
  | [d1, d2, d3] => { results := [.lit (.bool true)], args := [d1, d2, d3] }
  | _ => none }
def lawS1511CRepeatRow : OpenClaim := { program := "ybulkaegq", sum := "b2f7db145a601f7442323c3bd1124a56c58a46033664d97cbd3b3ebf9ac9ced9", func := "example.com/precedes/precedes.LawS1511CRepeat", spec := "lawS1511CRepeat", recurses := true, apart := false }
def LawS1511CRepeatSaid : Prop := lawS1511CRepeatRow.holds Yba.pinned (OpenSpec.ofChange lawS1511CRepeatSpec)

/-- ITS FALSE NEIGHBOUR: 'it returns false'. Refute it at one input. -/
def lawS1511CRepeatWrong : ChangeSpec := { name := "lawS1511CRepeat", fn := fun _ => fun
  | [d1, d2, d3] => { results := [.lit (.bool false)], args := [d1, d2, d3] }
  | _ => none }
def LawS1511CRepeatWrongFalsely : Prop := lawS1511CRepeatRow.holds Yba.pinned (OpenSpec.ofChange lawS1511CRepeatWrong)

/-- 'precedes.LawS1511CClass': WHATEVER THE INPUT: true; the input reads as it did. -/
def lawS1511CClassSpec : ChangeSpec := { name := "lawS1511CClass", fn := fun _ => fun
  | [d1, d2] => { results := [.lit (.bool true)], args := [d1, d2] }
  | _ => none }
def lawS1511CClassRow : OpenClaim := { program := "ybulkaegq", sum := "b2f7db145a601f7442323c3bd1124a56c58a46033664d97cbd3b3ebf9ac9ced9", func := "example.com/precedes/precedes.LawS1511CClass", spec := "lawS1511CClass", recurses := true, apart := false }
def LawS1511CClassSaid : Prop := lawS1511CClassRow.holds Yba.pinned (OpenSpec.ofChange lawS1511CClassSpec)

/-- ITS FALSE NEIGHBOUR: 'it returns false'. Refute it at one input. -/
def lawS1511CClassWrong : ChangeSpec := { name := "lawS1511CClass", fn := fun _ => fun
  | [d1, d2] => { results := [.lit (.bool false)], args := [d1, d2] }
  | _ => none }
def LawS1511CClassWrongFalsely : Prop := lawS1511CClassRow.holds Yba.pinned (OpenSpec.ofChange lawS1511CClassWrong)

end Rows
end Go.Proofs.Ybulkaegq
