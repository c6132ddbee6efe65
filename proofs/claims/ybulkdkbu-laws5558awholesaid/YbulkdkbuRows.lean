/-
  No cell of these rows narrows 'for every input' (looked for: loops, veiled, ifaces, maps, wideKeys, modest, calm, conditions, laid).
  DERIVED. THE GIVEN ROWS OF THIS SEAT. 2 by the template 'for every input the law returns true; each argument reads behind the call as it read before'; 0 by the template 'total and deterministic' (their statements: YbulkdkbuTotals.lean).
  GIVEN WITH THE SEED: the statements are not yours to turn. If you find one false, say at which input.
  Laid BY PROGRAM, IN A SANDBOX (cutbox-rows.mjs): the forced cells as the released guide's own fill.sh prints them over the translation f5d0d3486742b6ce… (all of the seat's roots in one cut). By AI agents, Wed Nov 11 2026. No macro, syntax, notation, axiom, sorry.
-/
import Derived.Test.YbulkdkbuChecked
import GoSem.Claim
import GoSem.ClaimJoined
import GoSem.ClaimMapViews
import Derived.JoinedTies
import Derived.KernelRfl
namespace Go.Proofs.Ybulkdkbu
/- THE CELL 'sum', in the pinned program and in every row, IS THE sha256 OF THE DUMP (.gsa) THAT YbulkdkbuProg.lean LOADS. Nothing in Lean hashes anything: it is a label: what it is worth is what the hold of that sum in a sandbox is worth. -/
noncomputable def Yba.pinned : Pinned := { name := "ybulkdkbu", sum := "f5d0d3486742b6ced24c3038230878fe4b5baf02da04ff23c530d362ce0baece", checked := Yba.checked }
namespace Rows
def none {H : Type} : Left H := { results := [], args := [] }

/-- 'annalist.LawS5558AWhole': WHATEVER THE INPUT: true; the input reads as it did. -/
def lawS5558AWholeSpec : ChangeSpec := { name := "lawS5558AWhole", fn := fun _ => fun
  | [d1, d2, d3] => { results := [.lit (.bool true)], args := [d1, d2, d3] }
  | _ => none }
def lawS5558AWholeRow : OpenClaim := { program := "ybulkdkbu", sum := "f5d0d3486742b6ced24c3038230878fe4b5baf02da04ff23c530d362ce0baece", func := "example.com/annalist/annalist.LawS5558AWhole", spec := "lawS5558AWhole", apart := false }
def LawS5558AWholeSaid : Prop := lawS5558AWholeRow.holds Yba.pinned (OpenSpec.ofChange lawS5558AWholeSpec)

/-- ITS FALSE NEIGHBOUR: 'it returns false'. Refute it at one input. -/
def lawS5558AWholeWrong : ChangeSpec := { name := "lawS5558AWhole", fn := fun _ => fun
  | [d1, d2, d3] => { results := [.lit (.bool false)], args := [d1, d2, d3] }
  | _ => none }
def LawS5558AWholeWrongFalsely : Prop := lawS5558AWholeRow.holds Yba.pinned (OpenSpec.ofChange lawS5558AWholeWrong)

/-- 'annalist.LawS5558ADecode': WHATEVER THE INPUT: true; the input reads as it did. -/
def lawS5558ADecodeSpec : ChangeSpec := { name := "lawS5558ADecode", fn := fun _ => fun
  | [d1, d2] => { results := [.lit (.bool true)], args := [d1, d2] }
  | _ => none }
def lawS5558ADecodeRow : OpenClaim := { program := "ybulkdkbu", sum := "f5d0d3486742b6ced24c3038230878fe4b5baf02da04ff23c530d362ce0baece", func := "example.com/annalist/annalist.LawS5558ADecode", spec := "lawS5558ADecode", apart := false }
def LawS5558ADecodeSaid : Prop := lawS5558ADecodeRow.holds Yba.pinned (OpenSpec.ofChange lawS5558ADecodeSpec)

/-- ITS FALSE NEIGHBOUR: 'it returns false'. Refute it at one input. -/
def lawS5558ADecodeWrong : ChangeSpec := { name := "lawS5558ADecode", fn := fun _ => fun
  | [d1, d2] => { results := [.lit (.bool false)], args := [d1, d2] }
  | _ => none }
def LawS5558ADecodeWrongFalsely : Prop := lawS5558ADecodeRow.holds Yba.pinned (OpenSpec.ofChange lawS5558ADecodeWrong)

end Rows
end Go.Proofs.Ybulkdkbu
