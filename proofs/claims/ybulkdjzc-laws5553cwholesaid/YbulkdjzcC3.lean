import Derived.Test.YbulkdjzcC2
namespace Go.Proofs.Ybulkdjzc
open Go.RowKit Go.Deep

/-- Beyond the size: true at once. -/
theorem walkC_big (a0 : Option Addr) (l0 c0 : Nat) (nr : Bool) (w : World) (h0 : l0 ≤ 9223372036854775807) (hsum : 1048576 < l0) :
    Calls Yba.prog 4 #[.slice a0 l0 c0, .bool nr] w fun e w' => e = .returned (.bool true) ∧ Below w.heap.size w w' := by
  have hbig : decide (1048576 < (l0 : Int)) = true := decide_eq_true (by omega)
  go_enter Yba.func4, Yba.ntmps4
  go_wp2
  go_ret
  exact ⟨rfl, Below.refl _ _⟩

theorem below_drewN {B : Nat} {w w' : World} (h : Below B w w') (n : Nat) : Below B w (w'.drewN n) := ⟨h.os, h.tape, h.output, h.size, h.block⟩

set_option maxHeartbeats 400000 in
/-- No current row. -/
theorem walkC_nil (a0 : Option Addr) (l0 c0 : Nat) (w : World) (hsum : l0 ≤ 1048576) :
    Calls Yba.prog 4 #[.slice a0 l0 c0, .bool true] w fun e w' => e = .returned (.bool true) ∧ Below w.heap.size w w' := by
  have hbig : decide (1048576 < (l0 : Int)) = false := decide_eq_false (by omega)
  have q56 : ∀ (w : World) (a : Option Addr) (n c n' c' : Nat), (binOp .neq 56 (.slice a n c) (.slice none n' c')).run Yba.prog w = .ok (.bool (!a.isNone)) w := fun w a n c n' c' => run_neq_slice_nil_any w _ _ a n c n' c' Yba.underlying56
  go_enter Yba.func4, Yba.ntmps4
  go_wp2_with fail
  refine (values_nil _ _ (by simp)).mono ?_
  rintro e w1 ⟨rfl, rfl⟩
  go_wp2_with fail
  refine (same_nil _).mono ?_
  rintro e w1 ⟨rfl, m, rfl⟩
  go_wp2
  refine wp_loop_rounds 1 ?_; rw [rounds_succ]
  go_wp2_with fail
  refine (same_nil _).mono ?_
  rintro e w1 ⟨rfl, m', rfl⟩
  go_wp2
  go_ret
  exact ⟨rfl, below_drewN ((Below.refl _ _).alloc (Nat.le_refl _) _) _⟩

theorem ta2 (n : Int) (W : World) : (Instr.typeAssert (.iface 2 (.int .i64 n)) 20 2 true).run Yba.prog W = .ok (.tuple #[.int .i64 n, .bool true]) W := by
  simp [Instr.typeAssert, run_underlying Yba.underlying2]
theorem ta9 (x : ByteArray) (W : World) : (Instr.typeAssert (.iface 9 (.string x)) 20 9 true).run Yba.prog W = .ok (.tuple #[.string x, .bool true]) W := by
  simp [Instr.typeAssert, run_underlying Yba.underlying9]

structure LaidC (w W : World) (g1 g2 rx g4 l : Nat) (K N : Nat → Int) (S : Nat → ByteArray) (F : Nat → Value) : Prop where
  bel : Below w.heap.size w W
  r1 : W.rowIs g1 43 (l * 3) (valF K N S)
  r2 : W.rowIs g2 43 (l * 3) (valF K N S)
  r4 : W.rowIs g4 20 l F
  c7 : W.cell? ⟨rx, 7, none⟩ = some (.slice (some ⟨g1, 0, none⟩) l l)
  c9 : W.cell? ⟨rx, 9, none⟩ = some (.bool false)
  c8 : W.cell? ⟨rx, 8, none⟩ = some .nilIface
  c4 : W.cell? ⟨rx, 4, none⟩ = some (.pointer none)
  d1 : g1 < g4
  d2 : g2 < g4
  dx : rx < g4
  dw : w.heap.size ≤ g4

theorem laidC_of {w w1 w2 w3 : World} {l : Nat} {K N : Nat → Int} {S : Nat → ByteArray} {F : Nat → Value} {x0 x1 x2 x3 x5 x6 : Value} {t : Nat}
    (h1 : Below w.heap.size w w1 ∧ w1.heap.size = w.heap.size + 1 ∧ w1.rowIs w.heap.size 43 (l * 3) (valF K N S)) (h2 : Below w1.heap.size w1 w2 ∧ w2.heap.size = w1.heap.size + 1 ∧ w2.rowIs w1.heap.size 43 (l * 3) (valF K N S))
    (h3 : Below (w2.alloc (.cells #[x0, x1, x2, x3, .pointer none, x5, x6, .slice (some ⟨w.heap.size, 0, none⟩) l l, .nilIface, .bool false] t)).heap.size (w2.alloc (.cells #[x0, x1, x2, x3, .pointer none, x5, x6, .slice (some ⟨w.heap.size, 0, none⟩) l l, .nilIface, .bool false] t)) w3)
    (hr : w3.rowIs (w2.alloc (.cells #[x0, x1, x2, x3, .pointer none, x5, x6, .slice (some ⟨w.heap.size, 0, none⟩) l l, .nilIface, .bool false] t)).heap.size 20 l F) :
    LaidC w w3 w.heap.size w1.heap.size w2.heap.size (w2.heap.size + 1) l K N S F := by
  obtain ⟨b1, s1, r1⟩ := h1
  obtain ⟨b2, s2, r2⟩ := h2
  have sz : (w2.alloc (.cells #[x0, x1, x2, x3, .pointer none, x5, x6, .slice (some ⟨w.heap.size, 0, none⟩) l l, .nilIface, .bool false] t)).heap.size = w2.heap.size + 1 := by simp
  rw [sz] at h3 hr
  have r1' : w2.rowIs w.heap.size 43 (l * 3) (valF K N S) := r1.of_block (b2.block _ (by omega))
  have r1'' := (r1'.alloc (.cells #[x0, x1, x2, x3, .pointer none, x5, x6, .slice (some ⟨w.heap.size, 0, none⟩) l l, .nilIface, .bool false] t)).of_block (h3.block _ (by omega))
  have r2'' := (r2.alloc (.cells #[x0, x1, x2, x3, .pointer none, x5, x6, .slice (some ⟨w.heap.size, 0, none⟩) l l, .nilIface, .bool false] t)).of_block (h3.block _ (by omega))
  refine ⟨((b1.trans (b2.mono (by omega))).alloc (by omega) _).trans (h3.mono (by omega)), r1'', r2'', hr, ?_, ?_, ?_, ?_, by omega, by omega, by omega, by omega⟩
  all_goals rw [h3.cell (by show w2.heap.size < w2.heap.size + 1; omega)]; simp

theorem LaidC.alloc {w W : World} {g1 g2 rx g4 l : Nat} {K N : Nat → Int} {S : Nat → ByteArray} {F : Nat → Value} (h : LaidC w W g1 g2 rx g4 l K N S F) (o : Obj) : LaidC w (W.alloc o) g1 g2 rx g4 l K N S F := by
  have hx : rx < W.heap.size := Nat.lt_trans h.dx h.r4.lt
  have hc : ∀ i, (W.alloc o).cell? ⟨rx, i, none⟩ = W.cell? ⟨rx, i, none⟩ := fun i => World.cell?_alloc_lt _ _ _ (by exact hx)
  exact ⟨h.bel.alloc h.bel.size o, h.r1.alloc o, h.r2.alloc o, h.r4.alloc o, (hc 7).trans h.c7, (hc 9).trans h.c9, (hc 8).trans h.c8, (hc 4).trans h.c4, h.d1, h.d2, h.dx, h.dw⟩
theorem LaidC.drewN {w W : World} {g1 g2 rx g4 l : Nat} {K N : Nat → Int} {S : Nat → ByteArray} {F : Nat → Value} (h : LaidC w W g1 g2 rx g4 l K N S F) (n : Nat) : LaidC w (W.drewN n) g1 g2 rx g4 l K N S F :=
  ⟨below_drewN h.bel n, h.r1, h.r2, h.r4, h.c7, h.c9, h.c8, h.c4, h.d1, h.d2, h.dx, h.dw⟩
theorem LaidC.store {w W : World} {g1 g2 rx g4 l : Nat} {K N : Nat → Int} {S : Nat → ByteArray} {F : Nat → Value} (h : LaidC w W g1 g2 rx g4 l K N S F) (k : Nat) (v : Value) : ∃ F', LaidC w (W.setCell ⟨g4, k, none⟩ v) g1 g2 rx g4 l K N S F' := by
  have d1 := h.d1; have d2 := h.d2; have dx := h.dx
  have hc : ∀ i, (W.setCell ⟨g4, k, none⟩ v).cell? ⟨rx, i, none⟩ = W.cell? ⟨rx, i, none⟩ := fun i => World.cell?_of_block (Below.heap_setCell _ _ _ _ (by show rx ≠ g4; omega))
  exact ⟨_, h.bel.setCell h.dw v, h.r1.setOther (by show g1 ≠ g4; omega) v, h.r2.setOther (by show g2 ≠ g4; omega) v, h.r4.set k v, (hc 7).trans h.c7, (hc 9).trans h.c9, (hc 8).trans h.c8, (hc 4).trans h.c4, h.d1, h.d2, h.dx, h.dw⟩

set_option maxRecDepth 20000 in
set_option maxHeartbeats 400000 in
/-- There is a current row. -/
theorem walkC_row (ao : Option Addr) (l c b o : Nat) (K N : Nat → Int) (S : Nat → ByteArray) (w : World) (hl : l ≤ 1048576)
    (hix : ∀ c', c' < l → ∀ w : World, (Instr.indexAt 45 (.slice ao l c) (.int .i64 (c' : Int))).run Yba.prog w = .ok (.pointer (some ⟨b, o + c' * 3, none⟩)) w)
    (hb : 0 < l → b < w.heap.size)
    (hc : ∀ i, i < l → w.cell? ⟨b, o + i * 3, none⟩ = some (.int .u8 (K i)) ∧ w.cell? ⟨b, o + i * 3 + 1, none⟩ = some (.int .i64 (N i)) ∧ w.cell? ⟨b, o + i * 3 + 2, none⟩ = some (.string (S i)))
    (hK : ∀ i, i < l → 0 ≤ K i ∧ K i ≤ 255) :
    Calls Yba.prog 4 #[.slice ao l c, .bool false] w fun e w' => e = .returned (.bool true) ∧ Below w.heap.size w w' := by
  have hbig : decide (1048576 < (l : Int)) = false := decide_eq_false (by omega)
  have q56 : ∀ (w : World) (a : Option Addr) (n c n' c' : Nat), (binOp .eql 56 (.slice a n c) (.slice none n' c')).run Yba.prog w = .ok (.bool a.isNone) w := fun w a n c n' c' => Lib.run_eql_slice_nil w _ _ a n c n' c' Yba.underlying56
  have HI := hid hix
  have HC := hid hc
  have HB := hid hb
  have HK := hid hK
  clear hix hc hb hK
  have t2 := ta2
  have t9 := ta9
  go_enter Yba.func4, Yba.ntmps4
  go_wp2_with fail
  refine (build_any ao l c b o K N S _ hl HI.out HB.out HC.out HK.out).mono ?_
  rintro e w1 ⟨rfl, hb1, hs1, hr1⟩
  have H1 := hid (And.intro hb1 (And.intro hs1 hr1))
  clear hb1 hs1 hr1
  go_wp2_with fail
  refine (build_any ao l c b o K N S _ hl HI.out (fun h => by have := HB.out h; have := H1.out.2.1; omega) (fun i hi => by
    have hbw := HB.out (by omega)
    have hbc : ∀ o, w1.cell? ⟨b, o, none⟩ = w.cell? ⟨b, o, none⟩ := fun o => H1.out.1.cell (by exact hbw)
    rw [hbc, hbc, hbc]; exact HC.out i hi) HK.out).mono ?_
  rintro e w2 ⟨rfl, hb2, hs2, hr2⟩
  have H2 := hid (And.intro hb2 (And.intro hs2 hr2))
  clear hb2 hs2 hr2
  go_wp2_with fail
  refine (values_row w2.heap.size w.heap.size l l (fun i => K i % 4) N S _ hl (by simp) (by simp) ((H1.out.2.2.of_block (H2.out.1.block _ (by have := H1.out.2.1; omega))).alloc _)).mono ?_
  rintro e w3 ⟨rfl, hb3, hr3⟩
  have L : Hid (LaidC w w3 w.heap.size w1.heap.size w2.heap.size (w2.heap.size + 1) l (fun i => K i % 4) N S (gvF (fun i => K i % 4) N S)) := hid (laidC_of H1.out H2.out hb3 hr3)
  clear hb3 hr3
  go_wp2
  go_loopw [9] (fun i wr => ∃ k : Nat, k ≤ l ∧ i = .int .i64 k ∧ Hid (LaidC w wr w.heap.size w1.heap.size w2.heap.size (w2.heap.size + 1) l (fun i => K i % 4) N S (gvF (fun i => K i % 4) N S))) (fun i _ => l - (intOf i).toNat)
  case atStart => exact ⟨0, Nat.zero_le _, rfl, L⟩
  case round =>
    clear L
    obtain ⟨k, hk, rfl, L⟩ := hrel
    by_cases hlt : k < l
    · have hbw := HB.out (by omega)
      have hi := HI.out k hlt
      obtain ⟨hk0, hk1⟩ := HK.out k hlt
      have hbc : ∀ o, wr.cell? ⟨b, o, none⟩ = w.cell? ⟨b, o, none⟩ := fun o => L.out.bel.cell (by exact hbw)
      obtain ⟨p0, p1, p2⟩ := HC.out k hlt
      rw [← hbc] at p0 p1 p2
      clear hbc
      have g4l := L.out.r4.lt
      have t0 := L.out.r4.cell hlt
      by_cases e1 : K k % 4 = 1
      · have b1 : (K k % 4 == 1) = true := by rw [e1]; rfl
        have t1 : gvF (fun i => K i % 4) N S k = .iface 2 (.int .i64 (N k)) := by simp [gvF, gval, e1]
        rw [t1] at t0
        clear t1 e1
        go_wp2
        go_roundw
        case rel => exact ⟨k + 1, by omega, by go_num, hid (L.out.alloc _)⟩
        case measure => simp [intOf]; omega
      · have b1 : (K k % 4 == 1) = false := beq_eq_false_iff_ne.2 e1
        by_cases e2 : K k % 4 = 2
        · have b2 : (K k % 4 == 2) = true := by rw [e2]; rfl
          have t1 : gvF (fun i => K i % 4) N S k = .iface 9 (.string (S k)) := by simp [gvF, gval, e2]
          rw [t1] at t0
          clear t1 e2 e1
          go_wp2
          go_roundw
          case rel => exact ⟨k + 1, by omega, by go_num, hid (L.out.alloc _)⟩
          case measure => simp [intOf]; omega
        · have b2 : (K k % 4 == 2) = false := beq_eq_false_iff_ne.2 e2
          have t1 : gvF (fun i => K i % 4) N S k = .nilIface := by simp [gvF, gval, e1, e2]
          rw [t1] at t0
          clear t1 e2 e1
          go_wp2
          go_roundw
          case rel => exact ⟨k + 1, by omega, by go_num, hid (L.out.alloc _)⟩
          case measure => simp [intOf]; omega
    · have c7 := L.out.c7
      have c9 := L.out.c9
      have c8 := L.out.c8
      have c4 := L.out.c4
      go_wp2_with fail
      refine (same_rows w.heap.size w1.heap.size l l l (fun i => K i % 4) N S _ hl L.out.r1 L.out.r2).mono ?_
      rintro e w4 ⟨rfl, m, rfl⟩
      go_wp2
      obtain ⟨wo, rfl⟩ : ∃ wo : World, wo = wr := ⟨_, rfl⟩
      go_loopw [15] (fun i wl => ∃ q : Nat, q ≤ l ∧ i = .int .i64 q ∧ Hid (∃ F, LaidC w wl w.heap.size w1.heap.size w2.heap.size (w2.heap.size + 1) l (fun i => K i % 4) N S F)) (fun i _ => l - (intOf i).toNat)
      case atStart => exact ⟨0, Nat.zero_le _, rfl, hid ⟨_, L.out.drewN _⟩⟩
      case round =>
        clear L c7 c9 c8 c4
        obtain ⟨q, hq, rfl, L⟩ := hrel
        by_cases hlq : q < l
        · obtain ⟨F, LF⟩ := L.out
          have s0 := LF.r4.cell hlq
          have s1 := LF.r4.frozen q
          clear LF
          go_wp2
          go_roundw
          case rel =>
            refine ⟨q + 1, by omega, by go_num, ?_⟩
            obtain ⟨F, LF⟩ := L.out
            exact hid (LF.store q _)
          case measure => simp [intOf]; omega
        · obtain ⟨F, LF⟩ := L.out
          have LF' := hid LF
          have c7 := LF.c7
          clear LF
          go_wp2_with fail
          refine (same_rows w.heap.size w1.heap.size l l l (fun i => K i % 4) N S _ hl LF'.out.r1 LF'.out.r2).mono ?_
          rintro e w4 ⟨rfl, m', rfl⟩
          go_wp2
          go_ret
          exact ⟨rfl, below_drewN LF'.out.bel _⟩

end Go.Proofs.Ybulkdjzc
