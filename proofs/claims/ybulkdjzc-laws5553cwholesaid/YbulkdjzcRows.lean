/-
  No cell of these rows narrows 'for every input' (looked for: loops, veiled, ifaces, maps, wideKeys, modest, calm, conditions, laid).
  DERIVED. THE GIVEN ROWS OF THIS SEAT. 2 by the template 'for every input the law returns true; each argument reads behind the call as it read before'; 0 by the template 'total and deterministic' (their statements: YbulkdjzcTotals.lean).
  GIVEN WITH THE SEED: the statements are not yours to turn. If you find one false, say at which input.
  Laid BY PROGRAM, IN A SANDBOX (cutbox-rows.mjs): the forced cells as the released guide's own fill.sh prints them over the translation aa4d7257192b350e… (all of the seat's roots in one cut). By AI agents, Wed Nov 11 2026. No macro, syntax, notation, axiom, sorry.
-/
import Derived.Test.YbulkdjzcChecked
import GoSem.Claim
import GoSem.ClaimJoined
import GoSem.ClaimMapViews
import Derived.JoinedTies
import Derived.KernelRfl
namespace Go.Proofs.Ybulkdjzc
/- THE CELL 'sum', in the pinned program and in every row, IS THE sha256 OF THE DUMP (.gsa) THAT YbulkdjzcProg.lean LOADS. Nothing in Lean hashes anything: it is a label: what it is worth is what the hold of that sum in a sandbox is worth. -/
noncomputable def Yba.pinned : Pinned := { name := "ybulkdjzc", sum := "aa4d7257192b350e408c5d84aaff76af719188248f3d71fb772ec5d2fdab1f05", checked := Yba.checked }
namespace Rows
def none {H : Type} : Left H := { results := [], args := [] }

/-- 'pageleaf.LawS5553BWhole': WHATEVER THE INPUT: true; the input reads as it did. -/
def lawS5553BWholeSpec : ChangeSpec := { name := "lawS5553BWhole", fn := fun _ => fun
  | [d1, d2] => { results := [.lit (.bool true)], args := [d1, d2] }
  | _ => none }
def lawS5553BWholeRow : OpenClaim := { program := "ybulkdjzc", sum := "aa4d7257192b350e408c5d84aaff76af719188248f3d71fb772ec5d2fdab1f05", func := "example.com/pageleaf/pageleaf.LawS5553BWhole", spec := "lawS5553BWhole", unfollowed := true, recurses := true, apart := false }
def LawS5553BWholeSaid : Prop := lawS5553BWholeRow.holds Yba.pinned (OpenSpec.ofChange lawS5553BWholeSpec)

/-- ITS FALSE NEIGHBOUR: 'it returns false'. Refute it at one input. -/
def lawS5553BWholeWrong : ChangeSpec := { name := "lawS5553BWhole", fn := fun _ => fun
  | [d1, d2] => { results := [.lit (.bool false)], args := [d1, d2] }
  | _ => none }
def LawS5553BWholeWrongFalsely : Prop := lawS5553BWholeRow.holds Yba.pinned (OpenSpec.ofChange lawS5553BWholeWrong)

/-- 'pageleaf.LawS5553CWhole': WHATEVER THE INPUT: true; the input reads as it did. -/
def lawS5553CWholeSpec : ChangeSpec := { name := "lawS5553CWhole", fn := fun _ => fun
  | [d1, d2] => { results := [.lit (.bool true)], args := [d1, d2] }
  | _ => none }
def lawS5553CWholeRow : OpenClaim := { program := "ybulkdjzc", sum := "aa4d7257192b350e408c5d84aaff76af719188248f3d71fb772ec5d2fdab1f05", func := "example.com/pageleaf/pageleaf.LawS5553CWhole", spec := "lawS5553CWhole", apart := false }
def LawS5553CWholeSaid : Prop := lawS5553CWholeRow.holds Yba.pinned (OpenSpec.ofChange lawS5553CWholeSpec)

/-- ITS FALSE NEIGHBOUR: 'it returns false'. Refute it at one input. -/
def lawS5553CWholeWrong : ChangeSpec := { name := "lawS5553CWhole", fn := fun _ => fun
  | [d1, d2] => { results := [.lit (.bool false)], args := [d1, d2] }
  | _ => none }
def LawS5553CWholeWrongFalsely : Prop := lawS5553CWholeRow.holds Yba.pinned (OpenSpec.ofChange lawS5553CWholeWrong)

end Rows
end Go.Proofs.Ybulkdjzc
