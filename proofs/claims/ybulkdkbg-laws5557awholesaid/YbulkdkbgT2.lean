import Derived.Test.YbulkdkbgT1
import Derived.BigQuiet
import Derived.BigRegion
import Derived.Deep.QuietTactic
import Derived.Deep.RegionWith
namespace Go.Proofs.Ybulkdkbg
open Go.RowKit Go.Deep

theorem tv_eq {T n s : Int} (h0 : 0 ≤ n) (h1 : n < 1000000000) (h : T = s * 1000000000 + n) : tv T = .agg #[.int .u64 n, .int .i64 s, .pointer none] := by
  have e1 : T % 1000000000 = n := by omega
  have e2 : T / 1000000000 = s := by omega
  simp [tv, e1, e2]

set_option maxHeartbeats 800000 in
theorem add_core (n s d q r : Int) (w : World) (hq : d.tdiv 1000000000 = q) (hr : d.tmod 1000000000 = r) (h0 : 0 ≤ n) (h1 : n < 1000000000) (hs0 : -40000000000 ≤ s) (hs1 : s ≤ 40000000000) (hd0 : -40000000000 ≤ q) (hd1 : q ≤ 40000000000) (hr0 : -1000000000 < r) (hr1 : r < 1000000000) :
    Calls Yba.prog 4 #[.agg #[.int .u64 n, .int .i64 s, .pointer none], .int .i64 d] w fun e w' => e = .returned (tv ((s + q) * 1000000000 + n + r)) ∧ Below w.heap.size w w' := by
  have e1 := ba n h0 (by omega)
  by_cases hA : 1000000000 ≤ n + r
  · have hv := tv_eq (T := (s + q) * 1000000000 + n + r) (n := n + r - 1000000000) (s := s + (q + 1)) (by omega) (by omega) (by omega)
    rw [hv]
    clear hv
    have e2 := bo (n + r - 1000000000) (by omega) (by omega)
    have e3 := bm (n + r - 1000000000) (by omega) (by omega)
    have t1 : decide (1000000000 ≤ n + r) = true := decide_eq_true hA
    go_enter Yba.func4, Yba.ntmps4
    go_wp2_with (first
      | (go_at_call 8; refine (nsec_any _ _ n _ (by simp) h0 h1).mono ?_; rintro e w' ⟨rfl, rfl⟩)
      | (go_at_call 9; refine (addSec_any _ _ (n + r - 1000000000) s (q + 1) _ (by simp) (by simp) (by simp) (by omega) (by omega) (by omega) (by omega) (by omega) (by omega)).mono ?_; rintro e w' ⟨rfl, rfl⟩))
    exact bodyPost_ret (v := .agg #[.int .u64 (n + r - 1000000000), .int .i64 (s + (q + 1)), .pointer none]) (by simp [results, Yba.results4, go_sem]) rfl ⟨rfl, ((Below.refl _ _).alloc (Nat.le_refl _) _).alloc (by simp) _⟩
  · have t1 : decide (1000000000 ≤ n + r) = false := decide_eq_false hA
    by_cases hB : n + r < 0
    · have hv := tv_eq (T := (s + q) * 1000000000 + n + r) (n := n + r + 1000000000) (s := s + (q - 1)) (by omega) (by omega) (by omega)
      rw [hv]
      clear hv
      have e2 := bo (n + r + 1000000000) (by omega) (by omega)
      have e3 := bm (n + r + 1000000000) (by omega) (by omega)
      have t2 : decide (n + r < 0) = true := decide_eq_true hB
      go_enter Yba.func4, Yba.ntmps4
      go_wp2_with (first
        | (go_at_call 8; refine (nsec_any _ _ n _ (by simp) h0 h1).mono ?_; rintro e w' ⟨rfl, rfl⟩)
        | (go_at_call 9; refine (addSec_any _ _ (n + r + 1000000000) s (q - 1) _ (by simp) (by simp) (by simp) (by omega) (by omega) (by omega) (by omega) (by omega) (by omega)).mono ?_; rintro e w' ⟨rfl, rfl⟩))
      exact bodyPost_ret (v := .agg #[.int .u64 (n + r + 1000000000), .int .i64 (s + (q - 1)), .pointer none]) (by simp [results, Yba.results4, go_sem]) rfl ⟨rfl, ((Below.refl _ _).alloc (Nat.le_refl _) _).alloc (by simp) _⟩
    · have hv := tv_eq (T := (s + q) * 1000000000 + n + r) (n := n + r) (s := s + q) (by omega) (by omega) (by omega)
      rw [hv]
      clear hv
      have e2 := bo (n + r) (by omega) (by omega)
      have e3 := bm (n + r) (by omega) (by omega)
      have t2 : decide (n + r < 0) = false := decide_eq_false hB
      go_enter Yba.func4, Yba.ntmps4
      go_wp2_with (first
        | (go_at_call 8; refine (nsec_any _ _ n _ (by simp) h0 h1).mono ?_; rintro e w' ⟨rfl, rfl⟩)
        | (go_at_call 9; refine (addSec_any _ _ (n + r) s q _ (by simp) (by simp) (by simp) (by omega) (by omega) (by omega) (by omega) (by omega) (by omega)).mono ?_; rintro e w' ⟨rfl, rfl⟩))
      exact bodyPost_ret (v := .agg #[.int .u64 (n + r), .int .i64 (s + q), .pointer none]) (by simp [results, Yba.results4, go_sem]) rfl ⟨rfl, ((Below.refl _ _).alloc (Nat.le_refl _) _).alloc (by simp) _⟩

theorem tdm (d : Int) : d.tdiv 1000000000 * 1000000000 + d.tmod 1000000000 = d := by
  have := Int.mul_tdiv_add_tmod d 1000000000; omega

/-- (time.Time).Add. -/
theorem add_any (T d : Int) (w : World) (hT0 : -20000000000000000000 ≤ T) (hT1 : T ≤ 20000000000000000000) (hd0 : -9223372036854775808 ≤ d) (hd1 : d ≤ 9223372036854775807) :
    Calls Yba.prog 4 #[tv T, .int .i64 d] w fun e w' => e = .returned (tv (T + d)) ∧ Below w.heap.size w w' := by
  have hr0 := Int.tmod_lt_of_pos d (show (0 : Int) < 1000000000 by decide)
  have hr1 : -1000000000 < d.tmod 1000000000 := by
    have := Int.tmod_lt_of_pos (-d) (show (0 : Int) < 1000000000 by decide)
    rw [Int.neg_tmod] at this
    omega
  have hdm := tdm d
  have e : T + d = (T / 1000000000 + d.tdiv 1000000000) * 1000000000 + T % 1000000000 + d.tmod 1000000000 := by omega
  rw [e]
  exact add_core (T % 1000000000) (T / 1000000000) d _ _ w rfl rfl (by omega) (by omega) (by omega) (by omega) (by omega) (by omega) hr1 hr0

set_option maxHeartbeats 800000 in
theorem equal_core (n1 s1 n2 s2 : Int) (w : World) (h0 : 0 ≤ n1) (h1 : n1 < 1000000000) (g0 : 0 ≤ n2) (g1 : n2 < 1000000000) :
    Calls Yba.prog 15 #[.agg #[.int .u64 n1, .int .i64 s1, .pointer none], .agg #[.int .u64 n2, .int .i64 s2, .pointer none]] w fun e w' => e = .returned (.bool (decide (s1 * 1000000000 + n1 = s2 * 1000000000 + n2))) ∧ Below w.heap.size w w' := by
  have e1 := bmm n1 n2 h0 (by omega) g0 (by omega)
  by_cases hs : s1 = s2
  · have hd : decide (s1 * 1000000000 + n1 = s2 * 1000000000 + n2) = (n1 == n2) := by
      rw [Bool.eq_iff_iff]; simp; omega
    rw [hd]
    clear hd
    subst hs
    go_enter Yba.func15, Yba.ntmps15
    go_wp2_with (first
      | (go_at_call_of 8 (Value.pointer (some ⟨w.heap.size, 0, none⟩)); refine (nsec_any _ _ n1 _ (by simp) h0 h1).mono ?_; rintro e w' ⟨rfl, rfl⟩)
      | (go_at_call 8; refine (nsec_any _ _ n2 _ (by simp) g0 g1).mono ?_; rintro e w' ⟨rfl, rfl⟩)
      | (go_at_call_of 12 (Value.pointer (some ⟨w.heap.size, 0, none⟩)); refine (sec_any _ _ n1 s1 _ (by simp) (by simp) h0 h1).mono ?_; rintro e w' ⟨rfl, rfl⟩)
      | (go_at_call 12; refine (sec_any _ _ n2 s1 _ (by simp) (by simp) g0 g1).mono ?_; rintro e w' ⟨rfl, rfl⟩))
    go_ret
    exact ⟨rfl, ((Below.refl _ _).alloc (Nat.le_refl _) _).alloc (by simp) _⟩
  · have hd : decide (s1 * 1000000000 + n1 = s2 * 1000000000 + n2) = false := decide_eq_false (by omega)
    rw [hd]
    clear hd
    have b1 : (s1 == s2) = false := beq_eq_false_iff_ne.2 hs
    clear hs
    go_enter Yba.func15, Yba.ntmps15
    go_wp2_with (first
      | (go_at_call_of 8 (Value.pointer (some ⟨w.heap.size, 0, none⟩)); refine (nsec_any _ _ n1 _ (by simp) h0 h1).mono ?_; rintro e w' ⟨rfl, rfl⟩)
      | (go_at_call 8; refine (nsec_any _ _ n2 _ (by simp) g0 g1).mono ?_; rintro e w' ⟨rfl, rfl⟩)
      | (go_at_call_of 12 (Value.pointer (some ⟨w.heap.size, 0, none⟩)); refine (sec_any _ _ n1 s1 _ (by simp) (by simp) h0 h1).mono ?_; rintro e w' ⟨rfl, rfl⟩)
      | (go_at_call 12; refine (sec_any _ _ n2 s2 _ (by simp) (by simp) g0 g1).mono ?_; rintro e w' ⟨rfl, rfl⟩))
    go_ret
    exact ⟨rfl, ((Below.refl _ _).alloc (Nat.le_refl _) _).alloc (by simp) _⟩

/-- (time.Time).Equal. -/
theorem equal_any (T U : Int) (w : World) : Calls Yba.prog 15 #[tv T, tv U] w fun e w' => e = .returned (.bool (decide (T = U))) ∧ Below w.heap.size w w' := by
  have e : decide (T = U) = decide (T / 1000000000 * 1000000000 + T % 1000000000 = U / 1000000000 * 1000000000 + U % 1000000000) := by
    rw [Bool.eq_iff_iff]; simp; omega
  rw [e]
  exact equal_core _ _ _ _ w (by omega) (by omega) (by omega) (by omega)

set_option maxHeartbeats 800000 in
theorem before_core (n1 s1 n2 s2 : Int) (w : World) (h0 : 0 ≤ n1) (h1 : n1 < 1000000000) (g0 : 0 ≤ n2) (g1 : n2 < 1000000000) :
    Calls Yba.prog 16 #[.agg #[.int .u64 n1, .int .i64 s1, .pointer none], .agg #[.int .u64 n2, .int .i64 s2, .pointer none]] w fun e w' => e = .returned (.bool (decide (s1 * 1000000000 + n1 < s2 * 1000000000 + n2))) ∧ Below w.heap.size w w' := by
  have e1 := bmm n1 n2 h0 (by omega) g0 (by omega)
  by_cases hl : s1 < s2
  · have hd : decide (s1 * 1000000000 + n1 < s2 * 1000000000 + n2) = true := decide_eq_true (by omega)
    rw [hd]
    clear hd
    have b1 : decide (s1 < s2) = true := decide_eq_true hl
    go_enter Yba.func16, Yba.ntmps16
    go_wp2_with (first
      | (go_at_call_of 8 (Value.pointer (some ⟨w.heap.size, 0, none⟩)); refine (nsec_any _ _ n1 _ (by simp) h0 h1).mono ?_; rintro e w' ⟨rfl, rfl⟩)
      | (go_at_call 8; refine (nsec_any _ _ n2 _ (by simp) g0 g1).mono ?_; rintro e w' ⟨rfl, rfl⟩)
      | (go_at_call_of 12 (Value.pointer (some ⟨w.heap.size, 0, none⟩)); refine (sec_any _ _ n1 s1 _ (by simp) (by simp) h0 h1).mono ?_; rintro e w' ⟨rfl, rfl⟩)
      | (go_at_call 12; refine (sec_any _ _ n2 s2 _ (by simp) (by simp) g0 g1).mono ?_; rintro e w' ⟨rfl, rfl⟩))
    go_ret
    exact ⟨rfl, ((Below.refl _ _).alloc (Nat.le_refl _) _).alloc (by simp) _⟩
  · have b1 : decide (s1 < s2) = false := decide_eq_false hl
    by_cases hs : s1 = s2
    · have hd : decide (s1 * 1000000000 + n1 < s2 * 1000000000 + n2) = decide (n1 < n2) := by
        rw [Bool.eq_iff_iff]; simp; omega
      rw [hd]
      clear hd
      have b2 : (s1 == s2) = true := beq_iff_eq.2 hs
      clear hs
      go_enter Yba.func16, Yba.ntmps16
      go_wp2_with (first
      | (go_at_call_of 8 (Value.pointer (some ⟨w.heap.size, 0, none⟩)); refine (nsec_any _ _ n1 _ (by simp) h0 h1).mono ?_; rintro e w' ⟨rfl, rfl⟩)
      | (go_at_call 8; refine (nsec_any _ _ n2 _ (by simp) g0 g1).mono ?_; rintro e w' ⟨rfl, rfl⟩)
      | (go_at_call_of 12 (Value.pointer (some ⟨w.heap.size, 0, none⟩)); refine (sec_any _ _ n1 s1 _ (by simp) (by simp) h0 h1).mono ?_; rintro e w' ⟨rfl, rfl⟩)
      | (go_at_call 12; refine (sec_any _ _ n2 s2 _ (by simp) (by simp) g0 g1).mono ?_; rintro e w' ⟨rfl, rfl⟩))
      go_ret
      exact ⟨rfl, ((Below.refl _ _).alloc (Nat.le_refl _) _).alloc (by simp) _⟩
    · have hd : decide (s1 * 1000000000 + n1 < s2 * 1000000000 + n2) = false := decide_eq_false (by omega)
      rw [hd]
      clear hd
      have b2 : (s1 == s2) = false := beq_eq_false_iff_ne.2 hs
      clear hs
      go_enter Yba.func16, Yba.ntmps16
      go_wp2_with (first
      | (go_at_call_of 8 (Value.pointer (some ⟨w.heap.size, 0, none⟩)); refine (nsec_any _ _ n1 _ (by simp) h0 h1).mono ?_; rintro e w' ⟨rfl, rfl⟩)
      | (go_at_call 8; refine (nsec_any _ _ n2 _ (by simp) g0 g1).mono ?_; rintro e w' ⟨rfl, rfl⟩)
      | (go_at_call_of 12 (Value.pointer (some ⟨w.heap.size, 0, none⟩)); refine (sec_any _ _ n1 s1 _ (by simp) (by simp) h0 h1).mono ?_; rintro e w' ⟨rfl, rfl⟩)
      | (go_at_call 12; refine (sec_any _ _ n2 s2 _ (by simp) (by simp) g0 g1).mono ?_; rintro e w' ⟨rfl, rfl⟩))
      go_ret
      exact ⟨rfl, ((Below.refl _ _).alloc (Nat.le_refl _) _).alloc (by simp) _⟩

/-- (time.Time).Before. -/
theorem before_any (T U : Int) (w : World) : Calls Yba.prog 16 #[tv T, tv U] w fun e w' => e = .returned (.bool (decide (T < U))) ∧ Below w.heap.size w w' := by
  have e : decide (T < U) = decide (T / 1000000000 * 1000000000 + T % 1000000000 < U / 1000000000 * 1000000000 + U % 1000000000) := by
    rw [Bool.eq_iff_iff]; simp; omega
  rw [e]
  exact before_core _ _ _ _ w (by omega) (by omega) (by omega) (by omega)

end Go.Proofs.Ybulkdkbg
