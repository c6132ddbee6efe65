import Derived.Test.YbulkdkbgT3
namespace Go.Proofs.Ybulkdkbg
open Go.RowKit Go.Deep

def aliveB (now seen : Int) : Bool := decide (now - seen < 5000000000)

theorem spec_any (now seen : Int) (w : World) (h0 : -9223372036854775808 ≤ now) (h1 : now ≤ 9223372036854775807) (g0 : -9223372036854775808 ≤ seen) (g1 : seen ≤ 9223372036854775807) :
    Calls Yba.prog 5 #[.int .i64 now, .int .i64 seen] w fun e w' => e = .returned (.bool (aliveB now seen)) ∧ w' = w := by
  by_cases a : 0 ≤ now
  · by_cases b : 0 ≤ seen
    · have t1 : decide (0 ≤ now) = true := decide_eq_true a
      have t2 : decide (0 ≤ seen) = true := decide_eq_true b
      go_enter Yba.func5, Yba.ntmps5
      go_wp2
      go_ret
      exact ⟨rfl, rfl⟩
    · have t1 : decide (0 ≤ now) = true := decide_eq_true a
      have t2 : decide (0 ≤ seen) = false := decide_eq_false b
      have hd := hid (show aliveB now seen = decide (now < 5000000000 + seen) by unfold aliveB; rw [Bool.eq_iff_iff]; simp; omega)
      go_enter Yba.func5, Yba.ntmps5
      go_wp2
      go_ret
      exact ⟨by rw [hd.out]; rfl, rfl⟩
  · by_cases b : 0 ≤ seen
    · have t1 : decide (0 ≤ now) = false := decide_eq_false a
      have t2 : decide (0 ≤ seen) = true := decide_eq_true b
      have hd := hid (show aliveB now seen = true by unfold aliveB; simp; omega)
      go_enter Yba.func5, Yba.ntmps5
      go_wp2
      go_ret
      exact ⟨by rw [hd.out]; rfl, rfl⟩
    · have t1 : decide (0 ≤ now) = false := decide_eq_false a
      have t2 : decide (0 ≤ seen) = false := decide_eq_false b
      go_enter Yba.func5, Yba.ntmps5
      go_wp2
      go_ret
      exact ⟨rfl, rfl⟩

set_option maxHeartbeats 800000 in
theorem alive_core (b : Nat) (n1 s1 n2 s2 : Int) (w : World) (hb : b < w.heap.size) (hc0 : w.cell? ⟨b, 5, none⟩ = some (.int .u64 n2)) (hc1 : w.cell? ⟨b, 6, none⟩ = some (.int .i64 s2)) (hc2 : w.cell? ⟨b, 7, none⟩ = some (.pointer none))
    (h0 : 0 ≤ n1) (h1 : n1 < 1000000000) (g0 : 0 ≤ n2) (g1 : n2 < 1000000000)
    (hN0 : -9223372036854775808 ≤ s1 * 1000000000 + n1) (hN1 : s1 * 1000000000 + n1 ≤ 9223372036854775807) (hS0 : -9223372036854775808 ≤ s2 * 1000000000 + n2) (hS1 : s2 * 1000000000 + n2 ≤ 9223372036854775807) :
    Calls Yba.prog 11 #[.pointer (some ⟨b, 0, none⟩), .agg #[.int .u64 n1, .int .i64 s1, .pointer none]] w fun e w' => e = .returned (.bool (aliveB (s1 * 1000000000 + n1) (s2 * 1000000000 + n2))) ∧ Below w.heap.size w w' := by
  go_enter Yba.func11, Yba.ntmps11
  go_wp2
  go_region_with (go_at_call 13; refine (sub_any n1 s1 n2 s2 _ h0 h1 g0 g1 hN0 hN1 hS0 hS1).mono ?_; rintro e wa ⟨⟨R, rfl, hR⟩, hba⟩; have HR := hid hR; have HB := hid (((Below.refl w.heap.size w).alloc (Nat.le_refl _) (.cells #[.int .u64 n1, .int .i64 s1, .pointer none] 29)).drew.trans (hba.mono (by simp))); clear hR hba)
  all_goals
    go_wp2
    go_ret
    exact ⟨by rw [show aliveB (s1 * 1000000000 + n1) (s2 * 1000000000 + n2) = decide (R < 5000000000) from HR.out.symm]; rfl, HB.out⟩

end Go.Proofs.Ybulkdkbg
