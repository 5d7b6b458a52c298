/-
  No cell of these rows narrows 'for every input' (looked for: loops, veiled, ifaces, maps, wideKeys, modest, calm, conditions, laid).
  DERIVED. THE GIVEN ROWS OF THIS SEAT. 3 by the template 'for every input the law returns true; each argument reads behind the call as it read before'; 0 by the template 'total and deterministic' (their statements: YbulkcqyuTotals.lean).
  GIVEN WITH THE SEED: the statements are not yours to turn. If you find one false, say at which input.
  Laid BY PROGRAM, IN A SANDBOX (cutbox-rows.mjs): the forced cells as the released guide's own fill.sh prints them over the translation 56c8f981a1ca37c6… (all of the seat's roots in one cut). By AI agents, Wed Nov 11 2026. No macro, syntax, notation, axiom, sorry.
-/
import Derived.Test.YbulkcqyuChecked
import GoSem.Claim
import GoSem.ClaimJoined
import GoSem.ClaimMapViews
import Derived.JoinedTies
import Derived.KernelRfl
namespace Go.Proofs.Ybulkcqyu
/- THE CELL 'sum', in the pinned program and in every row, IS THE sha256 OF THE DUMP (.gsa) THAT YbulkcqyuProg.lean LOADS. Nothing in Lean hashes anything: it is a label: what it is worth is what the hold of that sum in a sandbox is worth. -/
noncomputable def Yba.pinned : Pinned := { name := "ybulkcqyu", sum := "56c8f981a1ca37c659a86cc40c31582be352b150819d2a9832f3e9c8a8e73c15", checked := Yba.checked }
namespace Rows
def none {H : Type} : Left H := { results := [], args := [] }

/-- 'antecedent.LawS4635BHeads': WHATEVER THE INPUT: true; the input reads as it did. -/
def lawS4635BHeadsSpec : ChangeSpec := { name := "lawS4635BHeads", fn := fun _ => fun
  | [d1, d2] => { results := [.lit (.bool true)], args := [d1, d2] }
  | _ => none }
def lawS4635BHeadsRow : OpenClaim := { program := "ybulkcqyu", sum := "56c8f981a1ca37c659a86cc40c31582be352b150819d2a9832f3e9c8a8e73c15", func := "example.com/antecedent/antecedent.LawS4635BHeads", spec := "lawS4635BHeads", unfollowed := true, recurses := true, apart := false }
def LawS4635BHeadsSaid : Prop := lawS4635BHeadsRow.holds Yba.pinned (OpenSpec.ofChange lawS4635BHeadsSpec)

/-- ITS FALSE NEIGHBOUR: 'it returns false'. Refute it at one input. -/
def lawS4635BHeadsWrong : ChangeSpec := { name := "lawS4635BHeads", fn := fun _ => fun
  | [d1, d2] => { results := [.lit (.bool false)], args := [d1, d2] }
  | _ => none }
def LawS4635BHeadsWrongFalsely : Prop := lawS4635BHeadsRow.holds Yba.pinned (OpenSpec.ofChange lawS4635BHeadsWrong)

/-- 'antecedent.LawS4635CSetModel': WHATEVER THE INPUT: true; the input reads as it did. -/
def lawS4635CSetModelSpec : ChangeSpec := { name := "lawS4635CSetModel", fn := fun _ => fun
  | [d1, d2] => { results := [.lit (.bool true)], args := [d1, d2] }
  | _ => none }
def lawS4635CSetModelRow : OpenClaim := { program := "ybulkcqyu", sum := "56c8f981a1ca37c659a86cc40c31582be352b150819d2a9832f3e9c8a8e73c15", func := "example.com/antecedent/antecedent.LawS4635CSetModel", spec := "lawS4635CSetModel", recurses := true, apart := false }
def LawS4635CSetModelSaid : Prop := lawS4635CSetModelRow.holds Yba.pinned (OpenSpec.ofChange lawS4635CSetModelSpec)

/-- ITS FALSE NEIGHBOUR: 'it returns false'. Refute it at one input. -/
def lawS4635CSetModelWrong : ChangeSpec := { name := "lawS4635CSetModel", fn := fun _ => fun
  | [d1, d2] => { results := [.lit (.bool false)], args := [d1, d2] }
  | _ => none }
def LawS4635CSetModelWrongFalsely : Prop := lawS4635CSetModelRow.holds Yba.pinned (OpenSpec.ofChange lawS4635CSetModelWrong)

/-- 'antecedent.LawS4635CFromShares': WHATEVER THE INPUT: true; the input reads as it did. -/
def lawS4635CFromSharesSpec : ChangeSpec := { name := "lawS4635CFromShares", fn := fun _ => fun
  | [d1, d2, d3] => { results := [.lit (.bool true)], args := [d1, d2, d3] }
  | _ => none }
def lawS4635CFromSharesRow : OpenClaim := { program := "ybulkcqyu", sum := "56c8f981a1ca37c659a86cc40c31582be352b150819d2a9832f3e9c8a8e73c15", func := "example.com/antecedent/antecedent.LawS4635CFromShares", spec := "lawS4635CFromShares", recurses := true, apart := false }
def LawS4635CFromSharesSaid : Prop := lawS4635CFromSharesRow.holds Yba.pinned (OpenSpec.ofChange lawS4635CFromSharesSpec)

/-- ITS FALSE NEIGHBOUR: 'it returns false'. Refute it at one input. -/
def lawS4635CFromSharesWrong : ChangeSpec := { name := "lawS4635CFromShares", fn := fun _ => fun
  | [d1, d2, d3] => { results := [.lit (.bool false)], args := [d1, d2, d3] }
  | _ => none }
def LawS4635CFromSharesWrongFalsely : Prop := lawS4635CFromSharesRow.holds Yba.pinned (OpenSpec.ofChange lawS4635CFromSharesWrong)

end Rows
end Go.Proofs.Ybulkcqyu
