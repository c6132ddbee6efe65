/-
  No cell of these rows narrows 'for every input' (looked for: loops, veiled, ifaces, maps, wideKeys, modest, calm, conditions, laid).
  DERIVED. THE GIVEN ROWS OF THIS SEAT. 1 by the template 'for every input the law returns true; each argument reads behind the call as it read before'; 0 by the template 'total and deterministic' (their statements: YbulkdkbgTotals.lean).
  GIVEN WITH THE SEED: the statements are not yours to turn. If you find one false, say at which input.
  Laid BY PROGRAM, IN A SANDBOX (cutbox-rows.mjs): the forced cells as the released guide's own fill.sh prints them over the translation 2ba842fbc549adaf… (all of the seat's roots in one cut). By AI agents, Wed Nov 11 2026. No macro, syntax, notation, axiom, sorry.
-/
import Derived.Test.YbulkdkbgChecked
import GoSem.Claim
import GoSem.ClaimJoined
import GoSem.ClaimMapViews
import Derived.JoinedTies
import Derived.KernelRfl
namespace Go.Proofs.Ybulkdkbg
/- THE CELL 'sum', in the pinned program and in every row, IS THE sha256 OF THE DUMP (.gsa) THAT YbulkdkbgProg.lean LOADS. Nothing in Lean hashes anything: it is a label: what it is worth is what the hold of that sum in a sandbox is worth. -/
noncomputable def Yba.pinned : Pinned := { name := "ybulkdkbg", sum := "2ba842fbc549adaf334a62e60b8da3382492a3394e97eee17e1067425bfebc1c", checked := Yba.checked }
namespace Rows
def none {H : Type} : Left H := { results := [], args := [] }

/-- 'coordinator.LawS5557AWhole': WHATEVER THE INPUT: true; the input reads as it did. -/
def lawS5557AWholeSpec : ChangeSpec := { name := "lawS5557AWhole", fn := fun _ => fun
  | [d1, d2, d3] => { results := [.lit (.bool true)], args := [d1, d2, d3] }
  | _ => none }
def lawS5557AWholeRow : OpenClaim := { program := "ybulkdkbg", sum := "2ba842fbc549adaf334a62e60b8da3382492a3394e97eee17e1067425bfebc1c", func := "example.com/branchcast/branchcast/coordinator.LawS5557AWhole", spec := "lawS5557AWhole", apart := false }
def LawS5557AWholeSaid : Prop := lawS5557AWholeRow.holds Yba.pinned (OpenSpec.ofChange lawS5557AWholeSpec)

/-- ITS FALSE NEIGHBOUR: 'it returns false'. Refute it at one input. -/
def lawS5557AWholeWrong : ChangeSpec := { name := "lawS5557AWhole", fn := fun _ => fun
  | [d1, d2, d3] => { results := [.lit (.bool false)], args := [d1, d2, d3] }
  | _ => none }
def LawS5557AWholeWrongFalsely : Prop := lawS5557AWholeRow.holds Yba.pinned (OpenSpec.ofChange lawS5557AWholeWrong)

end Rows
end Go.Proofs.Ybulkdkbg
