import Derived.Test.YbulkdkbgT2
namespace Go.Proofs.Ybulkdkbg
open Go.RowKit Go.Deep

/-- Add, its answer by its two numbers. -/
theorem add_ex (n s d : Int) (w : World) (h0 : 0 ≤ n) (h1 : n < 1000000000) (hs0 : -10000000000 ≤ s) (hs1 : s ≤ 10000000000) (hd0 : -9223372036854775808 ≤ d) (hd1 : d ≤ 9223372036854775807) :
    Calls Yba.prog 4 #[.agg #[.int .u64 n, .int .i64 s, .pointer none], .int .i64 d] w fun e w' => (∃ n' s', e = .returned (.agg #[.int .u64 n', .int .i64 s', .pointer none]) ∧ 0 ≤ n' ∧ n' < 1000000000 ∧ s' * 1000000000 + n' = s * 1000000000 + n + d) ∧ Below w.heap.size w w' := by
  have h := add_any (s * 1000000000 + n) d w (by omega) (by omega) hd0 hd1
  rw [tv_eq h0 h1 rfl] at h
  refine h.mono ?_
  rintro e w' ⟨rfl, hb⟩
  exact ⟨⟨_, _, rfl, by omega, by omega, by omega⟩, hb⟩

theorem cells3 {w w1 : World} {B : Nat} (hb : Below B w w1) {k : Nat} (hk : k < B) {c0 c1 c2 : Value} (h0 : w.cell? ⟨k, 0, none⟩ = some c0) (h1 : w.cell? ⟨k, 1, none⟩ = some c1) (h2 : w.cell? ⟨k, 2, none⟩ = some c2) :
    w1.cell? ⟨k, 0, none⟩ = some c0 ∧ w1.cell? ⟨k, 1, none⟩ = some c1 ∧ w1.cell? ⟨k, 2, none⟩ = some c2 :=
  ⟨(hb.cell (by exact hk)).trans h0, (hb.cell (by exact hk)).trans h1, (hb.cell (by exact hk)).trans h2⟩

/-- the two boxed moments -/
def Boxes (w W : World) (n1 s1 n2 s2 : Int) : Prop :=
  (W.cell? ⟨w.heap.size, 0, none⟩ = some (.int .u64 n1) ∧ W.cell? ⟨w.heap.size, 1, none⟩ = some (.int .i64 s1) ∧ W.cell? ⟨w.heap.size, 2, none⟩ = some (.pointer none)) ∧
  (W.cell? ⟨w.heap.size + 1, 0, none⟩ = some (.int .u64 n2) ∧ W.cell? ⟨w.heap.size + 1, 1, none⟩ = some (.int .i64 s2) ∧ W.cell? ⟨w.heap.size + 1, 2, none⟩ = some (.pointer none))
theorem two_boxes {w wa : World} {n1 s1 n2 s2 : Int} (hba : Below ((w.alloc (.cells #[.int .u64 n1, .int .i64 s1, .pointer none] 29)).alloc (.cells #[.int .u64 n2, .int .i64 s2, .pointer none] 29)).drew.heap.size ((w.alloc (.cells #[.int .u64 n1, .int .i64 s1, .pointer none] 29)).alloc (.cells #[.int .u64 n2, .int .i64 s2, .pointer none] 29)).drew wa) : Boxes w wa n1 s1 n2 s2 :=
  ⟨cells3 hba (k := w.heap.size) (by simp <;> omega) (by simp) (by simp) (by simp), cells3 hba (k := w.heap.size + 1) (by simp) (by simp) (by simp) (by simp)⟩
theorem two_on {w wa wb : World} {n1 s1 n2 s2 : Int} (h : Boxes w wa n1 s1 n2 s2) (hz : w.heap.size + 2 ≤ wa.heap.size) (hb : Below wa.heap.size wa wb) : Boxes w wb n1 s1 n2 s2 :=
  ⟨cells3 hb (by omega) h.1.1 h.1.2.1 h.1.2.2, cells3 hb (by omega) h.2.1 h.2.2.1 h.2.2.2⟩
theorem below_two {w wa : World} {o1 o2 : Obj} (hba : Below ((w.alloc o1).alloc o2).drew.heap.size ((w.alloc o1).alloc o2).drew wa) : Below w.heap.size w wa :=
  (((Below.refl w.heap.size w).alloc (Nat.le_refl _) o1).alloc (by simp) o2).drew.trans (hba.mono (by simp; omega))

set_option maxHeartbeats 1000000 in
theorem sub_same (n1 s1 n2 s2 D : Int) (w : World) (h0 : 0 ≤ n1) (h1 : n1 < 1000000000) (g0 : 0 ≤ n2) (g1 : n2 < 1000000000) (hs0 : -10000000000 ≤ s1) (hs1 : s1 ≤ 10000000000) (ht0 : -10000000000 ≤ s2) (ht1 : s2 ≤ 10000000000)
    (hD : wrap64 (wrap64 ((s1 - s2) * 1000000000) + (n1 - n2)) = D) (hD0 : -9223372036854775808 ≤ D) (hD1 : D ≤ 9223372036854775807) (hE : s2 * 1000000000 + n2 + D = s1 * 1000000000 + n1) :
    Calls Yba.prog 13 #[.agg #[.int .u64 n1, .int .i64 s1, .pointer none], .agg #[.int .u64 n2, .int .i64 s2, .pointer none]] w fun e w' => e = .returned (.int .i64 D) ∧ Below w.heap.size w w' := by
  have HE := hid hE
  clear hE
  have e1 := bmm n1 n2 h0 (by omega) g0 (by omega)
  go_enter Yba.func13, Yba.ntmps13
  go_wp2_with (first
      | (go_at_call_of 8 (Value.pointer (some ⟨w.heap.size, 0, none⟩)); refine (nsec_any _ _ n1 _ (by simp) h0 h1).mono ?_; rintro e w' ⟨rfl, rfl⟩)
      | (go_at_call 8; refine (nsec_any _ _ n2 _ (by simp) g0 g1).mono ?_; rintro e w' ⟨rfl, rfl⟩)
      | (go_at_call_of 12 (Value.pointer (some ⟨w.heap.size, 0, none⟩)); refine (sec_any _ _ n1 s1 _ (by simp) (by simp) h0 h1).mono ?_; rintro e w' ⟨rfl, rfl⟩)
      | (go_at_call 12; refine (sec_any _ _ n2 s2 _ (by simp) (by simp) g0 g1).mono ?_; rintro e w' ⟨rfl, rfl⟩))
  go_region_with (first
      | (go_at_call 4; refine (add_ex n2 s2 D _ g0 g1 ht0 ht1 hD0 hD1).mono ?_; rintro e wa ⟨⟨na, sa, rfl, ha0, ha1, haT⟩, hba⟩; have hza : w.heap.size + 2 ≤ wa.heap.size := (by have := hba.size; simp at this; omega); have HK := hid (two_boxes hba); obtain ⟨k0, k1, k2⟩ := HK.out.1; have HBa := hid (below_two hba); have HaT := hid haT; clear haT hba)
      | (go_at_call 15; refine (equal_core na sa n1 s1 _ ha0 ha1 h0 h1).mono ?_; rintro e wb ⟨rfl, hbb⟩; have HBb := hid (HBa.out.trans (hbb.mono HBa.out.size)); have HKb := hid (two_on HK.out hza hbb); have hza' := Nat.le_trans hza hbb.size; clear hbb k0 k1 k2; rw [show decide (sa * 1000000000 + na = s1 * 1000000000 + n1) = true from (by have := HaT.out; have := HE.out; simp; omega)]))
  all_goals
    go_wp2
    go_ret
    exact ⟨rfl, HBb.out⟩

set_option maxHeartbeats 1000000 in
theorem sub_diff (n1 s1 n2 s2 D : Int) (w : World) (h0 : 0 ≤ n1) (h1 : n1 < 1000000000) (g0 : 0 ≤ n2) (g1 : n2 < 1000000000) (hs0 : -10000000000 ≤ s1) (hs1 : s1 ≤ 10000000000) (ht0 : -10000000000 ≤ s2) (ht1 : s2 ≤ 10000000000)
    (hD : wrap64 (wrap64 ((s1 - s2) * 1000000000) + (n1 - n2)) = D) (hD0 : -9223372036854775808 ≤ D) (hD1 : D ≤ 9223372036854775807) (hE : s2 * 1000000000 + n2 + D ≠ s1 * 1000000000 + n1) (R : Int) (hR : R = if s1 * 1000000000 + n1 < s2 * 1000000000 + n2 then -9223372036854775808 else 9223372036854775807) :
    Calls Yba.prog 13 #[.agg #[.int .u64 n1, .int .i64 s1, .pointer none], .agg #[.int .u64 n2, .int .i64 s2, .pointer none]] w fun e w' => e = .returned (.int .i64 R) ∧ Below w.heap.size w w' := by
  have HE := hid hE
  have HR := hid hR
  clear hE hR
  have e1 := bmm n1 n2 h0 (by omega) g0 (by omega)
  go_enter Yba.func13, Yba.ntmps13
  go_wp2_with (first
      | (go_at_call_of 8 (Value.pointer (some ⟨w.heap.size, 0, none⟩)); refine (nsec_any _ _ n1 _ (by simp) h0 h1).mono ?_; rintro e w' ⟨rfl, rfl⟩)
      | (go_at_call 8; refine (nsec_any _ _ n2 _ (by simp) g0 g1).mono ?_; rintro e w' ⟨rfl, rfl⟩)
      | (go_at_call_of 12 (Value.pointer (some ⟨w.heap.size, 0, none⟩)); refine (sec_any _ _ n1 s1 _ (by simp) (by simp) h0 h1).mono ?_; rintro e w' ⟨rfl, rfl⟩)
      | (go_at_call 12; refine (sec_any _ _ n2 s2 _ (by simp) (by simp) g0 g1).mono ?_; rintro e w' ⟨rfl, rfl⟩))
  go_region_with (first
      | (go_at_call 4; refine (add_ex n2 s2 D _ g0 g1 ht0 ht1 hD0 hD1).mono ?_; rintro e wa ⟨⟨na, sa, rfl, ha0, ha1, haT⟩, hba⟩; have hza : w.heap.size + 2 ≤ wa.heap.size := (by have := hba.size; simp at this; omega); have HK := hid (two_boxes hba); obtain ⟨k0, k1, k2⟩ := HK.out.1; have HBa := hid (below_two hba); have HaT := hid haT; clear haT hba)
      | (go_at_call 15; refine (equal_core na sa n1 s1 _ ha0 ha1 h0 h1).mono ?_; rintro e wb ⟨rfl, hbb⟩; have HBb := hid (HBa.out.trans (hbb.mono HBa.out.size)); have HKb := hid (two_on HK.out hza hbb); have hza' := Nat.le_trans hza hbb.size; clear hbb k0 k1 k2; rw [show decide (sa * 1000000000 + na = s1 * 1000000000 + n1) = false from (by have := HaT.out; have := HE.out; simp; omega)]))
  all_goals
    obtain ⟨⟨j0, j1, j2⟩, ⟨m0, m1, m2⟩⟩ := HKb.out
    by_cases hlt : s1 * 1000000000 + n1 < s2 * 1000000000 + n2
    · have hRv := HR.out
      rw [if_pos hlt] at hRv
      subst hRv
      go_wp2_with (go_at_call 16; refine (before_core n1 s1 n2 s2 _ h0 h1 g0 g1).mono ?_; rintro e wc ⟨rfl, hbc⟩; rw [decide_eq_true hlt]; have HBc := hid (HBb.out.trans (hbc.mono HBb.out.size)); clear hbc)
      go_ret
      exact ⟨rfl, HBc.out⟩
    · have hRv := HR.out
      rw [if_neg hlt] at hRv
      subst hRv
      go_wp2_with (go_at_call 16; refine (before_core n1 s1 n2 s2 _ h0 h1 g0 g1).mono ?_; rintro e wc ⟨rfl, hbc⟩; rw [decide_eq_false hlt]; have HBc := hid (HBb.out.trans (hbc.mono HBb.out.size)); clear hbc)
      go_ret
      exact ⟨rfl, HBc.out⟩

theorem wrap64_mod (x : Int) : ∃ k, wrap64 x = x - k * 18446744073709551616 ∧ -9223372036854775808 ≤ wrap64 x ∧ wrap64 x ≤ 9223372036854775807 := by
  unfold wrap64
  exact ⟨(x + 9223372036854775808) / 18446744073709551616, by omega, by omega, by omega⟩

/-- (time.Time).Sub: what alive asks of it. -/
theorem sub_any (n1 s1 n2 s2 : Int) (w : World) (h0 : 0 ≤ n1) (h1 : n1 < 1000000000) (g0 : 0 ≤ n2) (g1 : n2 < 1000000000)
    (hN0 : -9223372036854775808 ≤ s1 * 1000000000 + n1) (hN1 : s1 * 1000000000 + n1 ≤ 9223372036854775807) (hS0 : -9223372036854775808 ≤ s2 * 1000000000 + n2) (hS1 : s2 * 1000000000 + n2 ≤ 9223372036854775807) :
    Calls Yba.prog 13 #[.agg #[.int .u64 n1, .int .i64 s1, .pointer none], .agg #[.int .u64 n2, .int .i64 s2, .pointer none]] w fun e w' =>
      (∃ R, e = .returned (.int .i64 R) ∧ decide (R < 5000000000) = decide (s1 * 1000000000 + n1 - (s2 * 1000000000 + n2) < 5000000000)) ∧ Below w.heap.size w w' := by
  obtain ⟨k1, e1, _, _⟩ := wrap64_mod ((s1 - s2) * 1000000000)
  obtain ⟨k2, e2, b0, b1⟩ := wrap64_mod (wrap64 ((s1 - s2) * 1000000000) + (n1 - n2))
  by_cases hE : s2 * 1000000000 + n2 + wrap64 (wrap64 ((s1 - s2) * 1000000000) + (n1 - n2)) = s1 * 1000000000 + n1
  · refine (sub_same n1 s1 n2 s2 _ w h0 h1 g0 g1 (by omega) (by omega) (by omega) (by omega) rfl b0 b1 hE).mono ?_
    rintro e w' ⟨rfl, hb⟩
    exact ⟨⟨_, rfl, by rw [Bool.eq_iff_iff]; simp; omega⟩, hb⟩
  · refine (sub_diff n1 s1 n2 s2 _ w h0 h1 g0 g1 (by omega) (by omega) (by omega) (by omega) rfl b0 b1 hE _ rfl).mono ?_
    rintro e w' ⟨rfl, hb⟩
    refine ⟨⟨_, rfl, ?_⟩, hb⟩
    by_cases hlt : s1 * 1000000000 + n1 < s2 * 1000000000 + n2
    · rw [if_pos hlt, decide_eq_true (by omega), decide_eq_true (by omega)]
    · rw [if_neg hlt, decide_eq_false (by omega), decide_eq_false (by omega)]

end Go.Proofs.Ybulkdkbg
