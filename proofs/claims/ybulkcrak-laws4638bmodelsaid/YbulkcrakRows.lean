/-
  No cell of these rows narrows 'for every input' (looked for: loops, veiled, ifaces, maps, wideKeys, modest, calm, conditions, laid).
  DERIVED. THE GIVEN ROWS OF THIS SEAT. 4 by the template 'for every input the law returns true; each argument reads behind the call as it read before'; 0 by the template 'total and deterministic' (their statements: YbulkcrakTotals.lean).
  GIVEN WITH THE SEED: the statements are not yours to turn. If you find one false, say at which input.
  Laid BY PROGRAM, IN A SANDBOX (cutbox-rows.mjs): the forced cells as the released guide's own fill.sh prints them over the translation 2ad081a091dc1b77… (all of the seat's roots in one cut). By AI agents, Wed Nov 11 2026. No macro, syntax, notation, axiom, sorry.
-/
import Derived.Test.YbulkcrakChecked
import GoSem.Claim
import GoSem.ClaimJoined
import GoSem.ClaimMapViews
import Derived.JoinedTies
import Derived.KernelRfl
namespace Go.Proofs.Ybulkcrak
/- THE CELL 'sum', in the pinned program and in every row, IS THE sha256 OF THE DUMP (.gsa) THAT YbulkcrakProg.lean LOADS. Nothing in Lean hashes anything: it is a label: what it is worth is what the hold of that sum in a sandbox is worth. -/
noncomputable def Yba.pinned : Pinned := { name := "ybulkcrak", sum := "2ad081a091dc1b77298c11eb888bbedbfac5688fbef383c4ed792c14de6b9417", checked := Yba.checked }
namespace Rows
def none {H : Type} : Left H := { results := [], args := [] }

/-- 'inifold.LawS4638AString': WHATEVER THE INPUT: true; the input reads as it did. -/
def lawS4638AStringSpec : ChangeSpec := { name := "lawS4638AString", fn := fun _ => fun
  | [d] => { results := [.lit (.bool true)], args := [d] }
  | _ => none }
def lawS4638AStringRow : OpenClaim := { program := "ybulkcrak", sum := "2ad081a091dc1b77298c11eb888bbedbfac5688fbef383c4ed792c14de6b9417", func := "example.com/inifold/inifold.LawS4638AString", spec := "lawS4638AString", apart := false }
def LawS4638AStringSaid : Prop := lawS4638AStringRow.holds Yba.pinned (OpenSpec.ofChange lawS4638AStringSpec)

/-- ITS FALSE NEIGHBOUR: 'it returns false'. Refute it at one input. -/
def lawS4638AStringWrong : ChangeSpec := { name := "lawS4638AString", fn := fun _ => fun
  | [d] => { results := [.lit (.bool false)], args := [d] }
  | _ => none }
def LawS4638AStringWrongFalsely : Prop := lawS4638AStringRow.holds Yba.pinned (OpenSpec.ofChange lawS4638AStringWrong)

/-- 'inifold.LawS4638ABytes': WHATEVER THE INPUT: true; the input reads as it did. -/
def lawS4638ABytesSpec : ChangeSpec := { name := "lawS4638ABytes", fn := fun _ => fun
  | [d] => { results := [.lit (.bool true)], args := [d] }
  | _ => none }
def lawS4638ABytesRow : OpenClaim := { program := "ybulkcrak", sum := "2ad081a091dc1b77298c11eb888bbedbfac5688fbef383c4ed792c14de6b9417", func := "example.com/inifold/inifold.LawS4638ABytes", spec := "lawS4638ABytes", apart := false }
def LawS4638ABytesSaid : Prop := lawS4638ABytesRow.holds Yba.pinned (OpenSpec.ofChange lawS4638ABytesSpec)

/-- ITS FALSE NEIGHBOUR: 'it returns false'. Refute it at one input. -/
def lawS4638ABytesWrong : ChangeSpec := { name := "lawS4638ABytes", fn := fun _ => fun
  | [d] => { results := [.lit (.bool false)], args := [d] }
  | _ => none }
def LawS4638ABytesWrongFalsely : Prop := lawS4638ABytesRow.holds Yba.pinned (OpenSpec.ofChange lawS4638ABytesWrong)

/-- 'inifold.LawS4638BModel': WHATEVER THE INPUT: true; the input reads as it did. -/
def lawS4638BModelSpec : ChangeSpec := { name := "lawS4638BModel", fn := fun _ => fun
  | [d1, d2] => { results := [.lit (.bool true)], args := [d1, d2] }
  | _ => none }
def lawS4638BModelRow : OpenClaim := { program := "ybulkcrak", sum := "2ad081a091dc1b77298c11eb888bbedbfac5688fbef383c4ed792c14de6b9417", func := "example.com/inifold/inifold.LawS4638BModel", spec := "lawS4638BModel", apart := false }
def LawS4638BModelSaid : Prop := lawS4638BModelRow.holds Yba.pinned (OpenSpec.ofChange lawS4638BModelSpec)

/-- ITS FALSE NEIGHBOUR: 'it returns false'. Refute it at one input. -/
def lawS4638BModelWrong : ChangeSpec := { name := "lawS4638BModel", fn := fun _ => fun
  | [d1, d2] => { results := [.lit (.bool false)], args := [d1, d2] }
  | _ => none }
def LawS4638BModelWrongFalsely : Prop := lawS4638BModelRow.holds Yba.pinned (OpenSpec.ofChange lawS4638BModelWrong)

/-- 'inifold.LawS4638BSplice': WHATEVER THE INPUT: true; the input reads as it did. -/
def lawS4638BSpliceSpec : ChangeSpec := { name := "lawS4638BSplice", fn := fun _ => fun
  | [d] => { results := [.lit (.bool true)], args := [d] }
  | _ => none }
def lawS4638BSpliceRow : OpenClaim := { program := "ybulkcrak", sum := "2ad081a091dc1b77298c11eb888bbedbfac5688fbef383c4ed792c14de6b9417", func := "example.com/inifold/inifold.LawS4638BSplice", spec := "lawS4638BSplice", apart := false }
def LawS4638BSpliceSaid : Prop := lawS4638BSpliceRow.holds Yba.pinned (OpenSpec.ofChange lawS4638BSpliceSpec)

/-- ITS FALSE NEIGHBOUR: 'it returns false'. Refute it at one input. -/
def lawS4638BSpliceWrong : ChangeSpec := { name := "lawS4638BSplice", fn := fun _ => fun
  | [d] => { results := [.lit (.bool false)], args := [d] }
  | _ => none }
def LawS4638BSpliceWrongFalsely : Prop := lawS4638BSpliceRow.holds Yba.pinned (OpenSpec.ofChange lawS4638BSpliceWrong)

end Rows
end Go.Proofs.Ybulkcrak
