/-
  No cell of these rows narrows 'for every input' (looked for: loops, veiled, ifaces, maps, wideKeys, modest, calm, conditions, laid).
  DERIVED. THE GIVEN ROWS OF THIS SEAT. 2 by the template 'for every input the law returns true; each argument reads behind the call as it read before'; 0 by the template 'total and deterministic' (their statements: YbulkdkasTotals.lean).
  GIVEN WITH THE SEED: the statements are not yours to turn. If you find one false, say at which input.
  Laid BY PROGRAM, IN A SANDBOX (cutbox-rows.mjs): the forced cells as the released guide's own fill.sh prints them over the translation 8aa876e02860b7dd… (all of the seat's roots in one cut). By AI agents, Wed Nov 11 2026. No macro, syntax, notation, axiom, sorry.
-/
import Derived.Test.YbulkdkasChecked
import GoSem.Claim
import GoSem.ClaimJoined
import GoSem.ClaimMapViews
import Derived.JoinedTies
import Derived.KernelRfl
namespace Go.Proofs.Ybulkdkas
/- THE CELL 'sum', in the pinned program and in every row, IS THE sha256 OF THE DUMP (.gsa) THAT YbulkdkasProg.lean LOADS. Nothing in Lean hashes anything: it is a label: what it is worth is what the hold of that sum in a sandbox is worth. -/
noncomputable def Yba.pinned : Pinned := { name := "ybulkdkas", sum := "8aa876e02860b7dd539c16a80dabe0d22bf8e6a286f84e65f2686cf46f83c2ab", checked := Yba.checked }
namespace Rows
def none {H : Type} : Left H := { results := [], args := [] }

/-- 'causallog.LawS5556BWhole': WHATEVER THE INPUT: true; the input reads as it did. -/
def lawS5556BWholeSpec : ChangeSpec := { name := "lawS5556BWhole", fn := fun _ => fun
  | [d1, d2, d3, d4, d5] => { results := [.lit (.bool true)], args := [d1, d2, d3, d4, d5] }
  | _ => none }
def lawS5556BWholeRow : OpenClaim := { program := "ybulkdkas", sum := "8aa876e02860b7dd539c16a80dabe0d22bf8e6a286f84e65f2686cf46f83c2ab", func := "example.com/tickwise/tickwise/internal/causallog.LawS5556BWhole", spec := "lawS5556BWhole", apart := false }
def LawS5556BWholeSaid : Prop := lawS5556BWholeRow.holds Yba.pinned (OpenSpec.ofChange lawS5556BWholeSpec)

/-- ITS FALSE NEIGHBOUR: 'it returns false'. Refute it at one input. -/
def lawS5556BWholeWrong : ChangeSpec := { name := "lawS5556BWhole", fn := fun _ => fun
  | [d1, d2, d3, d4, d5] => { results := [.lit (.bool false)], args := [d1, d2, d3, d4, d5] }
  | _ => none }
def LawS5556BWholeWrongFalsely : Prop := lawS5556BWholeRow.holds Yba.pinned (OpenSpec.ofChange lawS5556BWholeWrong)

/-- 'tickwise.LawS5556CWhole': WHATEVER THE INPUT: true; the input reads as it did. -/
def lawS5556CWholeSpec : ChangeSpec := { name := "lawS5556CWhole", fn := fun _ => fun
  | [d1, d2, d3, d4, d5] => { results := [.lit (.bool true)], args := [d1, d2, d3, d4, d5] }
  | _ => none }
def lawS5556CWholeRow : OpenClaim := { program := "ybulkdkas", sum := "8aa876e02860b7dd539c16a80dabe0d22bf8e6a286f84e65f2686cf46f83c2ab", func := "example.com/tickwise/tickwise.LawS5556CWhole", spec := "lawS5556CWhole", apart := false }
def LawS5556CWholeSaid : Prop := lawS5556CWholeRow.holds Yba.pinned (OpenSpec.ofChange lawS5556CWholeSpec)

/-- ITS FALSE NEIGHBOUR: 'it returns false'. Refute it at one input. -/
def lawS5556CWholeWrong : ChangeSpec := { name := "lawS5556CWhole", fn := fun _ => fun
  | [d1, d2, d3, d4, d5] => { results := [.lit (.bool false)], args := [d1, d2, d3, d4, d5] }
  | _ => none }
def LawS5556CWholeWrongFalsely : Prop := lawS5556CWholeRow.holds Yba.pinned (OpenSpec.ofChange lawS5556CWholeWrong)

end Rows
end Go.Proofs.Ybulkdkas
