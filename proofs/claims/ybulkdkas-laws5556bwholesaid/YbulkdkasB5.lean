import Derived.Test.YbulkdkasB4
namespace Go.Proofs.Ybulkdkas
open Go.RowKit Go.Deep

theorem Clk.below {w W : World} {ca : Option Addr} {l g : Nat} {M : List (Int × Int)} (h : Clk w ca l g M) (hb : Below w.heap.size w W) : Clk W ca l g M :=
  ⟨h.len, h.at0, fun h0 => (h.row h0).of_block (hb.block _ (h.row h0).lt)⟩
theorem Clk.mems {w : World} {ca : Option Addr} {l g : Nat} {M : List (Int × Int)} (h : Clk w ca l g M) : MemsIn w 23 ca l l g 0 M := by
  refine ⟨h.len, fun k hk W => ?_, fun h0 => (h.row h0).lt, fun k hk => ?_, fun k hk => ?_⟩
  · rw [h.at0 (by omega)]; exact run_index_n 23 45 2 Yba.underlying23 (by kernel_rfl) g 0 l l k hk W
  · rw [Nat.zero_add, (h.row (by omega)).cell (by omega), memF0]
  · rw [Nat.zero_add, (h.row (by omega)).cell (by omega), memF1]
theorem MemsIn.drewN {w : World} {t : TypeId} {ao : Option Addr} {l c b o : Nat} {M : List (Int × Int)} (h : MemsIn w t ao l c b o M) (n : Nat) : MemsIn (w.drewN n) t ao l c b o M := ⟨h.len, h.ix, h.lt, h.c0, h.c1⟩
theorem below_drewN {B : Nat} {w w' : World} (h : Below B w w') (n : Nat) : Below B w (w'.drewN n) := ⟨h.os, h.tape, h.output, h.size, h.block⟩

theorem walkB_big (a0 a1 : Option Addr) (l0 c0 l1 c1 : Nat) (ha hb : Int) (mir : Bool) (w : World) (h0 : l0 ≤ 9223372036854775807) (h1 : l1 ≤ 9223372036854775807) (hbig : 1048576 < l0 ∨ 1048576 < l1) :
    Calls Yba.prog 3 #[.slice a0 l0 c0, .int .i32 ha, .slice a1 l1 c1, .int .i32 hb, .bool mir] w fun e w' => e = .returned (.bool true) ∧ Below w.heap.size w w' := by
  by_cases hb0 : 1048576 < l0
  · have d0 : decide (1048576 < (l0 : Int)) = true := decide_eq_true (by omega)
    go_enter Yba.func3, Yba.ntmps3
    go_wp2
    go_ret
    exact ⟨rfl, Below.refl _ _⟩
  · have d0 : decide (1048576 < (l0 : Int)) = false := decide_eq_false (by omega)
    have d1 : decide (1048576 < (l1 : Int)) = true := decide_eq_true (by omega)
    go_enter Yba.func3, Yba.ntmps3
    go_wp2
    go_ret
    exact ⟨rfl, Below.refl _ _⟩

set_option maxRecDepth 20000 in
set_option maxHeartbeats 1000000 in
theorem walkB_two (a0 a1 : Option Addr) (l0 c0 b0 o0 l1 c1 : Nat) (A : List (Int × Int)) (b1 o1 : Nat) (B : List (Int × Int)) (ha hb : Int) (w : World) (hl0 : l0 ≤ 1048576) (hl1 : l1 ≤ 1048576)
    (hin0 : MemsIn w 22 a0 l0 c0 b0 o0 A) (pA : ∀ i, 0 ≤ (A.getD i (0, 0)).2) (nA : a0 = none → l0 = 0 ∧ c0 = 0) (hin1 : MemsIn w 22 a1 l1 c1 b1 o1 B) (pB : ∀ i, 0 ≤ (B.getD i (0, 0)).2) (nB : a1 = none → l1 = 0 ∧ c1 = 0) :
    Calls Yba.prog 3 #[.slice a0 l0 c0, .int .i32 ha, .slice a1 l1 c1, .int .i32 hb, .bool false] w fun e w' => e = .returned (.bool true) ∧ Below w.heap.size w w' := by
  have d0 : decide (1048576 < (l0 : Int)) = false := decide_eq_false (by omega)
  have d1 : decide (1048576 < (l1 : Int)) = false := decide_eq_false (by omega)
  have HA := hid hin0
  have PA := hid pA
  have NA := hid nA
  clear hin0 pA nA
  have HB := hid hin1
  have PB := hid pB
  have NB := hid nB
  clear hin1 pB nB
  go_enter Yba.func3, Yba.ntmps3
  go_wp2_with fail
  refine (clock_any a0 l0 c0 b0 o0 A w hl0 NA.out HA.out).mono ?_
  rintro e w1 ⟨ca1, g1, rfl, n1, t1, _, k1⟩
  have B1 := hid t1
  have K1 := hid k1
  have N1 := hid n1
  clear t1 k1 n1
  go_wp2_with fail
  refine (clock_any a1 l1 c1 b1 o1 B w1 (by omega) NB.out (HB.out.below B1.out)).mono ?_
  rintro e w2 ⟨ca2, g2, rfl, n2, t2, _, k2⟩
  have B2 := hid (B1.out.trans (t2.mono B1.out.size))
  have K2 := hid k2
  have K1 := hid (K1.out.below t2)
  have N2 := hid n2
  clear t2 k2 n2 B1
  go_wp2_with fail
  refine (clock_any a0 l0 c0 b0 o0 A w2 (by omega) NA.out (HA.out.below B2.out)).mono ?_
  rintro e w3 ⟨ca3, g3, rfl, n3, t3, _, k3⟩
  have B3 := hid (B2.out.trans (t3.mono B2.out.size))
  have K3 := hid k3
  have K2 := hid (K2.out.below t3)
  have K1 := hid (K1.out.below t3)
  have N3 := hid n3
  clear t3 k3 n3 B2
  go_wp2_with fail
  refine (clock_any a1 l1 c1 b1 o1 B w3 (by omega) NB.out (HB.out.below B3.out)).mono ?_
  rintro e w4 ⟨ca4, g4, rfl, n4, t4, _, k4⟩
  have B4 := hid (B3.out.trans (t4.mono B3.out.size))
  have K4 := hid k4
  have K3 := hid (K3.out.below t4)
  have K2 := hid (K2.out.below t4)
  have K1 := hid (K1.out.below t4)
  have N4 := hid n4
  clear t4 k4 n4 B3
  go_wp2_with fail
  refine (equ_any ca1 ca2 l0 l1 g1 g2 A B ha hb w4 (by omega) (by omega) K1.out K2.out PA.out PB.out).mono ?_
  rintro e w5 ⟨rfl, t5⟩
  have B5 := hid (B4.out.trans (t5.mono B4.out.size))
  have K4 := hid (K4.out.below t5)
  have K3 := hid (K3.out.below t5)
  have K2 := hid (K2.out.below t5)
  have K1 := hid (K1.out.below t5)
  clear t5 B4
  go_wp2_with fail
  refine (reduce_any a0 l0 c0 b0 o0 ha A w5 (by omega) (HA.out.below B5.out) PA.out).mono ?_
  rintro e w6 ⟨⟨ra, rc, rg, rfl, m6⟩, t6⟩
  have B6 := hid (B5.out.trans (t6.mono B5.out.size))
  have K4 := hid (K4.out.below t6)
  have K3 := hid (K3.out.below t6)
  have K2 := hid (K2.out.below t6)
  have K1 := hid (K1.out.below t6)
  have M6 := hid m6
  clear t6 m6 B5
  go_wp2_with fail
  refine (reduce_any a1 l1 c1 b1 o1 hb B w6 (by omega) (HB.out.below B6.out) PB.out).mono ?_
  rintro e w7 ⟨⟨sa, sc, sg, rfl, m7⟩, t7⟩
  have B7 := hid (B6.out.trans (t7.mono B6.out.size))
  have K4 := hid (K4.out.below t7)
  have K3 := hid (K3.out.below t7)
  have K2 := hid (K2.out.below t7)
  have K1 := hid (K1.out.below t7)
  have M6 := hid (M6.out.below t7)
  have M7 := hid m7
  clear t7 m7 B6
  go_wp2_with fail
  have z1 := red_len ha A
  have z2 := red_len hb B
  have z3 := HA.out.len
  have z4 := HB.out.len
  refine (eq_any ra sa _ rc rg 0 _ sc sg 0 (red ha A) (red hb B) w7 (by omega) (by omega) M6.out M7.out).mono ?_
  rintro e w8 ⟨rfl, m8, rfl⟩
  clear z1 z2 z3 z4 M6 M7
  go_wp2_with fail
  refine (eq_any ca1 ca3 l0 l0 g1 0 l0 l0 g3 0 A A (w7.drewN m8) (by omega) (by omega) (K1.out.mems.drewN m8) (K3.out.mems.drewN m8)).mono ?_
  rintro e w9 ⟨rfl, m9, rfl⟩
  have hAA : decide (A = A) = true := decide_eq_true rfl
  have hBB : decide (B = B) = true := decide_eq_true rfl
  have q24 : ∀ (w : World) (a : Option Addr) (n c n' c' : Nat), (binOp .eql 24 (.slice a n c) (.slice none n' c')).run Yba.prog w = .ok (.bool a.isNone) w := fun w a n c n' c' => Lib.run_eql_slice_nil w _ _ a n c n' c' Yba.underlying24
  go_wp2_with fail
  refine (eq_any ca2 ca4 l1 l1 g2 0 l1 l1 g4 0 B B _ (by omega) (by omega) (by exact K2.out.mems.drewN (m8 + m9)) (by exact K4.out.mems.drewN (m8 + m9))).mono ?_
  rintro e wa ⟨rfl, ma, rfl⟩
  have f1 := N1.out
  have f2 := N2.out
  have f3 := N3.out
  have f4 := N4.out
  go_wp2
  go_ret
  exact ⟨rfl, below_drewN B7.out _⟩

set_option maxRecDepth 20000 in
set_option maxHeartbeats 1000000 in
theorem walkB_mirror (a0 a1 : Option Addr) (l0 c0 b0 o0 l1 c1 : Nat) (A : List (Int × Int))  (ha hb : Int) (w : World) (hl0 : l0 ≤ 1048576) (hl1 : l1 ≤ 1048576)
    (hin0 : MemsIn w 22 a0 l0 c0 b0 o0 A) (pA : ∀ i, 0 ≤ (A.getD i (0, 0)).2) (nA : a0 = none → l0 = 0 ∧ c0 = 0) :
    Calls Yba.prog 3 #[.slice a0 l0 c0, .int .i32 ha, .slice a1 l1 c1,   .int .i32 hb, .bool true] w fun e w' => e = .returned (.bool true) ∧ Below w.heap.size w w' := by
  have d0 : decide (1048576 < (l0 : Int)) = false := decide_eq_false (by omega)
  have d1 : decide (1048576 < (l1 : Int)) = false := decide_eq_false (by omega)
  have HA := hid hin0
  have PA := hid pA
  have NA := hid nA
  clear hin0 pA nA
  go_enter Yba.func3, Yba.ntmps3
  go_wp2_with fail
  refine (clock_any a0 l0 c0 b0 o0 A w hl0 NA.out HA.out).mono ?_
  rintro e w1 ⟨ca1, g1, rfl, n1, t1, _, k1⟩
  have B1 := hid t1
  have K1 := hid k1
  have N1 := hid n1
  clear t1 k1 n1
  go_wp2_with fail
  refine (clock_any a0 l0 c0 b0 o0 A w1 (by omega) NA.out (HA.out.below B1.out)).mono ?_
  rintro e w2 ⟨ca2, g2, rfl, n2, t2, _, k2⟩
  have B2 := hid (B1.out.trans (t2.mono B1.out.size))
  have K2 := hid k2
  have K1 := hid (K1.out.below t2)
  have N2 := hid n2
  clear t2 k2 n2 B1
  go_wp2_with fail
  refine (clock_any a0 l0 c0 b0 o0 A w2 (by omega) NA.out (HA.out.below B2.out)).mono ?_
  rintro e w3 ⟨ca3, g3, rfl, n3, t3, _, k3⟩
  have B3 := hid (B2.out.trans (t3.mono B2.out.size))
  have K3 := hid k3
  have K2 := hid (K2.out.below t3)
  have K1 := hid (K1.out.below t3)
  have N3 := hid n3
  clear t3 k3 n3 B2
  go_wp2_with fail
  refine (clock_any a0 l0 c0 b0 o0 A w3 (by omega) NA.out (HA.out.below B3.out)).mono ?_
  rintro e w4 ⟨ca4, g4, rfl, n4, t4, _, k4⟩
  have B4 := hid (B3.out.trans (t4.mono B3.out.size))
  have K4 := hid k4
  have K3 := hid (K3.out.below t4)
  have K2 := hid (K2.out.below t4)
  have K1 := hid (K1.out.below t4)
  have N4 := hid n4
  clear t4 k4 n4 B3
  go_wp2_with fail
  refine (equ_any ca1 ca2 l0 l0 g1 g2 A A ha hb w4 (by omega) (by omega) K1.out K2.out PA.out PA.out).mono ?_
  rintro e w5 ⟨rfl, t5⟩
  have B5 := hid (B4.out.trans (t5.mono B4.out.size))
  have K4 := hid (K4.out.below t5)
  have K3 := hid (K3.out.below t5)
  have K2 := hid (K2.out.below t5)
  have K1 := hid (K1.out.below t5)
  clear t5 B4
  go_wp2_with fail
  refine (reduce_any a0 l0 c0 b0 o0 ha A w5 (by omega) (HA.out.below B5.out) PA.out).mono ?_
  rintro e w6 ⟨⟨ra, rc, rg, rfl, m6⟩, t6⟩
  have B6 := hid (B5.out.trans (t6.mono B5.out.size))
  have K4 := hid (K4.out.below t6)
  have K3 := hid (K3.out.below t6)
  have K2 := hid (K2.out.below t6)
  have K1 := hid (K1.out.below t6)
  have M6 := hid m6
  clear t6 m6 B5
  go_wp2_with fail
  refine (reduce_any a0 l0 c0 b0 o0 hb A w6 (by omega) (HA.out.below B6.out) PA.out).mono ?_
  rintro e w7 ⟨⟨sa, sc, sg, rfl, m7⟩, t7⟩
  have B7 := hid (B6.out.trans (t7.mono B6.out.size))
  have K4 := hid (K4.out.below t7)
  have K3 := hid (K3.out.below t7)
  have K2 := hid (K2.out.below t7)
  have K1 := hid (K1.out.below t7)
  have M6 := hid (M6.out.below t7)
  have M7 := hid m7
  clear t7 m7 B6
  go_wp2_with fail
  have z1 := red_len ha A
  have z2 := red_len hb A
  have z3 := HA.out.len
  have z4 := HA.out.len
  refine (eq_any ra sa _ rc rg 0 _ sc sg 0 (red ha A) (red hb A) w7 (by omega) (by omega) M6.out M7.out).mono ?_
  rintro e w8 ⟨rfl, m8, rfl⟩
  clear z1 z2 z3 z4 M6 M7
  go_wp2_with fail
  refine (eq_any ca1 ca3 l0 l0 g1 0 l0 l0 g3 0 A A (w7.drewN m8) (by omega) (by omega) (K1.out.mems.drewN m8) (K3.out.mems.drewN m8)).mono ?_
  rintro e w9 ⟨rfl, m9, rfl⟩
  have hAA : decide (A = A) = true := decide_eq_true rfl
  have q24 : ∀ (w : World) (a : Option Addr) (n c n' c' : Nat), (binOp .eql 24 (.slice a n c) (.slice none n' c')).run Yba.prog w = .ok (.bool a.isNone) w := fun w a n c n' c' => Lib.run_eql_slice_nil w _ _ a n c n' c' Yba.underlying24
  go_wp2_with fail
  refine (eq_any ca2 ca4 l0 l0 g2 0 l0 l0 g4 0 A A _ (by omega) (by omega) (by exact K2.out.mems.drewN (m8 + m9)) (by exact K4.out.mems.drewN (m8 + m9))).mono ?_
  rintro e wa ⟨rfl, ma, rfl⟩
  have f1 := N1.out
  have f2 := N2.out
  have f3 := N3.out
  have f4 := N4.out
  go_wp2
  go_ret
  exact ⟨rfl, below_drewN B7.out _⟩

end Go.Proofs.Ybulkdkas
