import Derived.Test.YbulkdkbgRows
import Derived.Test.YbulkdkbgKit
import Derived.Laws.BitsAllLaws
namespace Go.Proofs.Ybulkdkbg
open Go.RowKit Go.Deep

/-! bits of a time's first word: a number below 2^30 -/
theorem bm (n : Int) (h0 : 0 ≤ n) (h1 : n < 1073741824) : bits .and .u64 n 9223372036854775808 = 0 := by
  rw [u64_and n _ h0 (by omega) (by omega) (by omega)]
  have e : (9223372036854775808 : Int).toNat = 2 ^ 63 := rfl
  rw [e, nat_bit 63 n.toNat]
  have : n.toNat / 2 ^ 63 = 0 := Nat.div_eq_of_lt (by omega)
  rw [this]; rfl
theorem bn (n : Int) (h0 : 0 ≤ n) (h1 : n < 1073741824) : bits .and .u64 n 1073741823 = n := by
  rw [u64_and n _ h0 (by omega) (by omega) (by omega)]
  have e : (1073741823 : Int).toNat = 2 ^ 30 - 1 := rfl
  rw [e, Nat.and_two_pow_sub_one_eq_mod, Nat.mod_eq_of_lt (by omega)]
  omega
theorem ba (n : Int) (h0 : 0 ≤ n) (h1 : n < 1073741824) : bits .andNot .u64 n 1073741823 = 0 := by
  rw [u64_andNot n _ h0 (by omega) (by omega) (by omega)]
  have e : 18446744073709551615 - (1073741823 : Int).toNat = 18446744072635809792 := rfl
  rw [e]
  have : n.toNat &&& 18446744072635809792 = 0 := by
    apply Nat.eq_of_testBit_eq
    intro i
    rw [Nat.testBit_and, Nat.zero_testBit]
    by_cases hi : i < 30
    · have : Nat.testBit 18446744072635809792 i = false := by
        have e2 : (18446744072635809792 : Nat) = 17179869183 * 2 ^ 30 := rfl
        rw [e2, Nat.testBit_mul_two_pow]
        simp; omega
      simp [this]
    · have : Nat.testBit n.toNat i = false := Nat.testBit_lt_two_pow (Nat.lt_of_lt_of_le (show n.toNat < 2 ^ 30 by omega) (Nat.pow_le_pow_right (by omega) (by omega)))
      simp [this]
  rw [this]; rfl
theorem bo (n : Int) (h0 : 0 ≤ n) (h1 : n < 1073741824) : bits .or .u64 0 n = n := by
  rw [u64_or 0 n (by omega) (by omega) h0 (by omega)]
  simp; omega
theorem bmm (n m : Int) (h0 : 0 ≤ n) (h1 : n < 1073741824) (h2 : 0 ≤ m) (h3 : m < 1073741824) : bits .and .u64 (bits .and .u64 n m) 9223372036854775808 = 0 := by
  rw [u64_and n m h0 (by omega) h2 (by omega)]
  have : n.toNat &&& m.toNat ≤ n.toNat := Nat.and_le_left
  exact bm _ (by omega) (by omega)

/-- a moment: T nanoseconds after the zero time -/
def tv (T : Int) : Value := .agg #[.int .u64 (T % 1000000000), .int .i64 (T / 1000000000), .pointer none]

theorem nsec_any (b o : Nat) (n : Int) (w : World) (hc : w.cell? ⟨b, o, none⟩ = some (.int .u64 n)) (h0 : 0 ≤ n) (h1 : n < 1000000000) :
    Calls Yba.prog 8 #[.pointer (some ⟨b, o, none⟩)] w fun e w' => e = .returned (.int .i32 n) ∧ w' = w := by
  have e1 := bn n h0 (by omega)
  go_enter Yba.func8, Yba.ntmps8
  go_wp2
  go_ret
  exact ⟨rfl, rfl⟩

theorem sec_any (b o : Nat) (n s : Int) (w : World) (hc : w.cell? ⟨b, o, none⟩ = some (.int .u64 n)) (hs : w.cell? ⟨b, o + 1, none⟩ = some (.int .i64 s)) (h0 : 0 ≤ n) (h1 : n < 1000000000) :
    Calls Yba.prog 12 #[.pointer (some ⟨b, o, none⟩)] w fun e w' => e = .returned (.int .i64 s) ∧ w' = w := by
  have e1 := bm n h0 (by omega)
  go_enter Yba.func12, Yba.ntmps12
  go_wp2
  go_ret
  exact ⟨rfl, rfl⟩

theorem addSec_any (b o : Nat) (n s d : Int) (w : World) (hc : w.cell? ⟨b, o, none⟩ = some (.int .u64 n)) (hs : w.cell? ⟨b, o + 1, none⟩ = some (.int .i64 s)) (hf : w.frozen? ⟨b, o + 1, none⟩ = false) (h0 : 0 ≤ n) (h1 : n < 1000000000)
    (hs0 : -100000000000 ≤ s) (hs1 : s ≤ 100000000000) (hd0 : -100000000000 ≤ d) (hd1 : d ≤ 100000000000) :
    Calls Yba.prog 9 #[.pointer (some ⟨b, o, none⟩), .int .i64 d] w fun e w' => e = .returned (.tuple #[]) ∧ w' = w.setCell ⟨b, o + 1, none⟩ (.int .i64 (s + d)) := by
  have e1 := bm n h0 (by omega)
  by_cases hd : 0 < d
  · have t1 : decide (s < s + d) = true := decide_eq_true (by omega)
    have t2 : decide (0 < d) = true := decide_eq_true (by omega)
    go_enter Yba.func9, Yba.ntmps9
    go_wp2
    go_end0
    exact ⟨rfl, rfl⟩
  · have t1 : decide (s < s + d) = false := decide_eq_false (by omega)
    have t2 : decide (0 < d) = false := decide_eq_false (by omega)
    go_enter Yba.func9, Yba.ntmps9
    go_wp2
    go_end0
    exact ⟨rfl, rfl⟩

end Go.Proofs.Ybulkdkbg
