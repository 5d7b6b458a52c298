/-
  No cell of these rows narrows 'for every input' (looked for: loops, veiled, ifaces, maps, wideKeys, modest, calm, conditions, laid).
  DERIVED. THE GIVEN ROWS OF THIS SEAT. 4 by the template 'for every input the law returns true; each argument reads behind the call as it read before'; 0 by the template 'total and deterministic' (their statements: YbulkcrlsTotals.lean).
  GIVEN WITH THE SEED: the statements are not yours to turn. If you find one false, say at which input.
  Laid BY PROGRAM, IN A SANDBOX (cutbox-rows.mjs): the forced cells as the released guide's own fill.sh prints them over the translation 8aa5d8421649c7a9… (all of the seat's roots in one cut). By AI agents, Wed Nov 11 2026. No macro, syntax, notation, axiom, sorry.
-/
import Derived.Test.YbulkcrlsChecked
import GoSem.Claim
import GoSem.ClaimJoined
import GoSem.ClaimMapViews
import Derived.JoinedTies
import Derived.KernelRfl
namespace Go.Proofs.Ybulkcrls
/- THE CELL 'sum', in the pinned program and in every row, IS THE sha256 OF THE DUMP (.gsa) THAT YbulkcrlsProg.lean LOADS. Nothing in Lean hashes anything: it is a label: what it is worth is what the hold of that sum in a sandbox is worth. -/
noncomputable def Yba.pinned : Pinned := { name := "ybulkcrls", sum := "8aa5d8421649c7a95e2148690ca5e1cfaaa7626df1994ff8b2650fc2ee549828", checked := Yba.checked }
namespace Rows
def none {H : Type} : Left H := { results := [], args := [] }

/-- 'fussy-policy.LawS4659AByValue': WHATEVER THE INPUT: true; the input reads as it did. -/
def lawS4659AByValueSpec : ChangeSpec := { name := "lawS4659AByValue", fn := fun _ => fun
  | [d1, d2, d3, d4, d5, d6] => { results := [.lit (.bool true)], args := [d1, d2, d3, d4, d5, d6] }
  | _ => none }
def lawS4659AByValueRow : OpenClaim := { program := "ybulkcrls", sum := "8aa5d8421649c7a95e2148690ca5e1cfaaa7626df1994ff8b2650fc2ee549828", func := "example.com/fussy-policy/fussy-policy.LawS4659AByValue", spec := "lawS4659AByValue", inPlace := ["internal/bytealg.abigen_runtime_cmpstring"], apart := false }
def LawS4659AByValueSaid : Prop := lawS4659AByValueRow.holds Yba.pinned (OpenSpec.ofChange lawS4659AByValueSpec)

/-- ITS FALSE NEIGHBOUR: 'it returns false'. Refute it at one input. -/
def lawS4659AByValueWrong : ChangeSpec := { name := "lawS4659AByValue", fn := fun _ => fun
  | [d1, d2, d3, d4, d5, d6] => { results := [.lit (.bool false)], args := [d1, d2, d3, d4, d5, d6] }
  | _ => none }
def LawS4659AByValueWrongFalsely : Prop := lawS4659AByValueRow.holds Yba.pinned (OpenSpec.ofChange lawS4659AByValueWrong)

/-- 'fussy-policy.LawS4659AAntisym': WHATEVER THE INPUT: true; the input reads as it did. -/
def lawS4659AAntisymSpec : ChangeSpec := { name := "lawS4659AAntisym", fn := fun _ => fun
  | [d1, d2, d3, d4, d5, d6] => { results := [.lit (.bool true)], args := [d1, d2, d3, d4, d5, d6] }
  | _ => none }
def lawS4659AAntisymRow : OpenClaim := { program := "ybulkcrls", sum := "8aa5d8421649c7a95e2148690ca5e1cfaaa7626df1994ff8b2650fc2ee549828", func := "example.com/fussy-policy/fussy-policy.LawS4659AAntisym", spec := "lawS4659AAntisym", inPlace := ["internal/bytealg.abigen_runtime_cmpstring"], apart := false }
def LawS4659AAntisymSaid : Prop := lawS4659AAntisymRow.holds Yba.pinned (OpenSpec.ofChange lawS4659AAntisymSpec)

/-- ITS FALSE NEIGHBOUR: 'it returns false'. Refute it at one input. -/
def lawS4659AAntisymWrong : ChangeSpec := { name := "lawS4659AAntisym", fn := fun _ => fun
  | [d1, d2, d3, d4, d5, d6] => { results := [.lit (.bool false)], args := [d1, d2, d3, d4, d5, d6] }
  | _ => none }
def LawS4659AAntisymWrongFalsely : Prop := lawS4659AAntisymRow.holds Yba.pinned (OpenSpec.ofChange lawS4659AAntisymWrong)

/-- 'fussy-policy.LawS4659CExact': WHATEVER THE INPUT: true; the input reads as it did. -/
def lawS4659CExactSpec : ChangeSpec := { name := "lawS4659CExact", fn := fun _ => fun
  | [d1, d2, d3, d4, d5] => { results := [.lit (.bool true)], args := [d1, d2, d3, d4, d5] }
  | _ => none }
def lawS4659CExactRow : OpenClaim := { program := "ybulkcrls", sum := "8aa5d8421649c7a95e2148690ca5e1cfaaa7626df1994ff8b2650fc2ee549828", func := "example.com/fussy-policy/fussy-policy.LawS4659CExact", spec := "lawS4659CExact", apart := false }
def LawS4659CExactSaid : Prop := lawS4659CExactRow.holds Yba.pinned (OpenSpec.ofChange lawS4659CExactSpec)

/-- ITS FALSE NEIGHBOUR: 'it returns false'. Refute it at one input. -/
def lawS4659CExactWrong : ChangeSpec := { name := "lawS4659CExact", fn := fun _ => fun
  | [d1, d2, d3, d4, d5] => { results := [.lit (.bool false)], args := [d1, d2, d3, d4, d5] }
  | _ => none }
def LawS4659CExactWrongFalsely : Prop := lawS4659CExactRow.holds Yba.pinned (OpenSpec.ofChange lawS4659CExactWrong)

/-- 'fussy-policy.LawS4659COther': WHATEVER THE INPUT: true; the input reads as it did. -/
def lawS4659COtherSpec : ChangeSpec := { name := "lawS4659COther", fn := fun _ => fun
  | [d1, d2, d3, d4, d5] => { results := [.lit (.bool true)], args := [d1, d2, d3, d4, d5] }
  | _ => none }
def lawS4659COtherRow : OpenClaim := { program := "ybulkcrls", sum := "8aa5d8421649c7a95e2148690ca5e1cfaaa7626df1994ff8b2650fc2ee549828", func := "example.com/fussy-policy/fussy-policy.LawS4659COther", spec := "lawS4659COther", apart := false }
def LawS4659COtherSaid : Prop := lawS4659COtherRow.holds Yba.pinned (OpenSpec.ofChange lawS4659COtherSpec)

/-- ITS FALSE NEIGHBOUR: 'it returns false'. Refute it at one input. -/
def lawS4659COtherWrong : ChangeSpec := { name := "lawS4659COther", fn := fun _ => fun
  | [d1, d2, d3, d4, d5] => { results := [.lit (.bool false)], args := [d1, d2, d3, d4, d5] }
  | _ => none }
def LawS4659COtherWrongFalsely : Prop := lawS4659COtherRow.holds Yba.pinned (OpenSpec.ofChange lawS4659COtherWrong)

end Rows
end Go.Proofs.Ybulkcrls
