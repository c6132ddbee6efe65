import Derived.Test.YbulkdkbuRows
import Derived.WalkKit
import Derived.WalkSpells
import Derived.WalkLawsBesides
import Derived.Laws.BitsAllLaws
namespace Go.Proofs.Ybulkdkbu
open Go.RowKit

theorem not_u64 (x : Int) (h0 : 0 ≤ x) (h1 : x < 18446744073709551616) : bits .xor .u64 IntKind.u64.max x = 18446744073709551615 - x := by
  obtain ⟨a, rfl⟩ := Int.eq_ofNat_of_zero_le h0
  show IntKind.u64.wrap ((BitVec.ofInt 64 IntKind.u64.max ^^^ BitVec.ofInt 64 (a : Int)).toNat : Int) = _
  have h1 : BitVec.ofInt 64 IntKind.u64.max = BitVec.allOnes 64 := by decide
  rw [h1, BitVec.allOnes_xor, BitVec.toNat_not, ofInt_u64 a (by omega), IntKind.wrap_u64]
  omega

theorem f1 (p d t : Int) : (wrap64 (IntKind.u64.wrap (IntKind.u64.wrap (IntKind.u64.wrap t - p) - d)) != wrap64 (IntKind.u64.wrap (IntKind.u64.wrap t + IntKind.u64.wrap (bits BinOp.xor IntKind.u64 IntKind.u64.max (IntKind.u64.wrap (p + d)) + 1)))) = false := by
  rw [not_u64 _ (by rw [IntKind.wrap_u64]; omega) (by rw [IntKind.wrap_u64]; omega)]
  have : IntKind.u64.wrap (IntKind.u64.wrap (IntKind.u64.wrap t - p) - d) = IntKind.u64.wrap (IntKind.u64.wrap t + IntKind.u64.wrap (18446744073709551615 - IntKind.u64.wrap (p + d) + 1)) := by
    simp only [IntKind.wrap_u64]; omega
  rw [this]; simp
theorem f1' (p d t : Int) : (wrap64 (IntKind.u64.wrap (IntKind.u64.wrap (IntKind.u64.wrap t - p) - d)) != wrap64 (IntKind.u64.wrap (IntKind.u64.wrap t + IntKind.u64.wrap (bits BinOp.xor IntKind.u64 (if IntKind.u64.signed = true then -1 else IntKind.u64.max) (IntKind.u64.wrap (p + d)) + 1)))) = false := by
  have e : (if IntKind.u64.signed = true then (-1 : Int) else IntKind.u64.max) = IntKind.u64.max := by simp [IntKind.signed]
  rw [e]; exact f1 p d t
theorem f2 (p t : Int) : (IntKind.u64.wrap (IntKind.u64.wrap (IntKind.u64.wrap t - p) + p) != IntKind.u64.wrap t) = false := by
  have : IntKind.u64.wrap (IntKind.u64.wrap (IntKind.u64.wrap t - p) + p) = IntKind.u64.wrap t := by simp only [IntKind.wrap_u64]; omega
  rw [this]; simp

set_option maxHeartbeats 400000 in
theorem whole (p d t : Int) (w : World) :
    Calls Yba.prog 3 #[.int .u64 p, .int .u64 d, .int .i64 t] w fun e w' => e = .returned (.bool true) ∧ Grown w w' := by
  have g1 := f1 p d t
  have g1' := f1' p d t
  have g2 := f2 p t
  go_enter Yba.func3, Yba.ntmps3
  go_wp2
  go_ret
  exact ⟨rfl, by repeat (first | exact Grown.refl _ | apply Grown.drew | apply Grown.alloc)⟩

end Go.Proofs.Ybulkdkbu
