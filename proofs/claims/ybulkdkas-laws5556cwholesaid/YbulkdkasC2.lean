import Derived.Test.YbulkdkasC1
import Derived.LaidEqlPtr
namespace Go.Proofs.Ybulkdkas
open Go.RowKit Go.Deep

/-- what came in, as the walks ask it -/
structure CameIn (w : World) (a0 : Option Addr) (l0 c0 b0 o0 : Nat) (A : Nat → Option Addr) (L C : Nat → Nat) (a1 : Option Addr) (l1 c1 b1 o1 : Nat) (Z : Nat → Int) (ae : Option Addr) (le ce : Nat) : Prop where
  ix0 : ∀ k, k < l0 → ∀ w : World, (Instr.indexAt 30 (.slice a0 l0 c0) (.int .i64 (k : Int))).run Yba.prog w = .ok (.pointer (some ⟨b0, o0 + k, none⟩)) w
  lt0 : 0 < l0 → b0 < w.heap.size
  cl0 : ∀ k, k < l0 → w.cell? ⟨b0, o0 + k, none⟩ = some (.slice (A k) (L k) (C k))
  by0 : ∀ k, k < l0 → Byt w (.slice (A k) (L k) (C k))
  ix1 : ∀ k, k < l1 → ∀ w : World, (Instr.indexAt 31 (.slice a1 l1 c1) (.int .i64 (k : Int))).run Yba.prog w = .ok (.pointer (some ⟨b1, o1 + k, none⟩)) w
  lt1 : 0 < l1 → b1 < w.heap.size
  cl1 : ∀ k, k < l1 → w.cell? ⟨b1, o1 + k, none⟩ = some (.int .u64 (Z k))
  bye : Byt w (.slice ae le ce)

def entF (l0 : Nat) (A : Nat → Option Addr) (L C : Nat → Nat) (Z : Nat → Int) (j : Nat) : Value :=
  if j % 2 = 0 then (if j / 2 < l0 then .slice (A (j / 2)) (L (j / 2)) (C (j / 2)) else .slice none 0 0) else .int .u64 (Z (j / 2))
theorem entF0 (l0 : Nat) (A : Nat → Option Addr) (L C : Nat → Nat) (Z : Nat → Int) (i : Nat) : entF l0 A L C Z (i * 2) = if i < l0 then .slice (A i) (L i) (C i) else .slice none 0 0 := by
  have e2 : i * 2 / 2 = i := by omega
  simp [entF, e2]
theorem entF1 (l0 : Nat) (A : Nat → Option Addr) (L C : Nat → Nat) (Z : Nat → Int) (i : Nat) : entF l0 A L C Z (i * 2 + 1) = .int .u64 (Z i) := by
  have e1 : (i * 2 + 1) % 2 = 1 := by omega
  have e2 : (i * 2 + 1) / 2 = i := by omega
  simp [entF, e1, e2]
theorem entF_one (l0 : Nat) (A : Nat → Option Addr) (L C : Nat → Nat) (Z : Nat → Int) (j : Nat) : (entF l0 A L C Z j).oneCell' = true := by
  unfold entF; split
  · split <;> rfl
  · rfl

theorem ent_step {w : World} {g m k l0 : Nat} {A : Nat → Option Addr} {L C : Nat → Nat} {Z : Nat → Int} {f : Nat → Value} {v : Value} (h : w.rowIs g 36 m f) (hf : ∀ j, j < k * 2 → f j = entF l0 A L C Z j) (hv : entF l0 A L C Z (k * 2) = v) :
    ∃ f', ((w.setCell ⟨g, k * 2, none⟩ v).setCell ⟨g, k * 2 + 1, none⟩ (.int .u64 (Z k))).rowIs g 36 m f' ∧ ∀ j, j < (k + 1) * 2 → f' j = entF l0 A L C Z j := by
  refine ⟨_, (h.set _ _).set _ _, fun j hj => ?_⟩
  by_cases e1 : j = k * 2 + 1
  · subst e1; rw [if_pos rfl, entF1]
  · rw [if_neg e1]
    by_cases e0 : j = k * 2
    · subst e0; rw [if_pos rfl, hv]
    · rw [if_neg e0]; exact hf j (by omega)

/-- the entries and what was got, behind the append -/
structure LaidE (w W : World) (g gg n r C' : Nat) (F : Nat → Value) (v : Value) (ec : Int) : Prop where
  bel : Below w.heap.size w W
  re : ∃ f, W.rowIs g 36 ((n + r) * 2) f ∧ ∀ j, j < n * 2 → f j = F j
  rg : ∃ f, W.rowIs gg 36 (C' * 2) (putE f n v ec) ∧ ∀ j, j < n * 2 → f j = F j
  room : n + 1 ≤ C'
theorem LaidE.e {w W : World} {g gg n r C' : Nat} {F : Nat → Value} {v : Value} {ec : Int} (h : LaidE w W g gg n r C' F v ec) {j : Nat} (hj : j < n * 2) : W.cell? ⟨g, j, none⟩ = some (F j) := by
  obtain ⟨f, hr, hf⟩ := h.re
  rw [← hf j hj]; exact hr.cell (by omega)
theorem LaidE.g {w W : World} {g gg n r C' : Nat} {F : Nat → Value} {v : Value} {ec : Int} (h : LaidE w W g gg n r C' F v ec) {j : Nat} (hj : j < n * 2) : W.cell? ⟨gg, j, none⟩ = some (F j) := by
  obtain ⟨f, hr, hf⟩ := h.rg
  have := h.room
  have hc := hr.cell (i := j) (by omega)
  rw [hc]; unfold putE
  rw [if_neg (by omega), hf j hj]
theorem LaidE.g0 {w W : World} {g gg n r C' : Nat} {F : Nat → Value} {v : Value} {ec : Int} (h : LaidE w W g gg n r C' F v ec) : W.cell? ⟨gg, n * 2, none⟩ = some v := by
  obtain ⟨f, hr, hf⟩ := h.rg
  have := h.room
  have hc := hr.cell (i := n * 2) (by omega)
  rw [hc]; unfold putE
  rw [if_pos (by omega)]; simp [entV]
theorem LaidE.g1 {w W : World} {g gg n r C' : Nat} {F : Nat → Value} {v : Value} {ec : Int} (h : LaidE w W g gg n r C' F v ec) : W.cell? ⟨gg, n * 2 + 1, none⟩ = some (.int .u64 ec) := by
  obtain ⟨f, hr, hf⟩ := h.rg
  have := h.room
  have hc := hr.cell (i := n * 2 + 1) (by omega)
  rw [hc]; unfold putE
  rw [if_pos (by omega)]; simp [entV]

/-- appendDecoded, one contract for all. -/
theorem app_any (w0 : World) (g n r : Nat) (an : Option Addr) (ln cn : Nat) (c : Int) (F : Nat → Value) (w : World) (hn : n ≤ 65536) (hr2 : r ≤ 2) (hg : w0.heap.size ≤ g) (hb : Below w0.heap.size w0 w) (hrow : ∃ f, w.rowIs g 36 ((n + r) * 2) f ∧ ∀ j, j < n * 2 → f j = F j) (h1 : ∀ j, j < n * 2 → (F j).oneCell' = true) :
    Calls Yba.prog 9 #[.slice (some ⟨g, 0, none⟩) n (n + r), .agg #[.slice an ln cn, .int .u64 c]] w fun e w' =>
      ∃ gg C', e = .returned (.slice (some ⟨gg, 0, none⟩) (n + 1) C') ∧ ((0 < r ∧ C' = n + r ∧ gg = g) ∨ (r = 0 ∧ 2 * n < 8 ∧ C' = 8 ∧ gg ≠ g) ∨ (r = 0 ∧ 8 ≤ 2 * n ∧ C' = 2 * n ∧ gg ≠ g)) ∧ LaidE w0 w' g gg n r C' F (.slice an ln cn) c := by
  obtain ⟨f, hrw, hf⟩ := hrow
  have hgl := hrw.lt
  by_cases hr : r = 0
  · subst hr
    have key : ∀ C', (2 * n < 8 ∧ C' = 8) ∨ (8 ≤ 2 * n ∧ C' = 2 * n) → Calls Yba.prog 9 #[.slice (some ⟨g, 0, none⟩) n (n + 0), .agg #[.slice an ln cn, .int .u64 c]] w fun e w' =>
      ∃ gg C', e = .returned (.slice (some ⟨gg, 0, none⟩) (n + 1) C') ∧ ((0 < 0 ∧ C' = n + 0 ∧ gg = g) ∨ (0 = 0 ∧ 2 * n < 8 ∧ C' = 8 ∧ gg ≠ g) ∨ (0 = 0 ∧ 8 ≤ 2 * n ∧ C' = 2 * n ∧ gg ≠ g)) ∧ LaidE w0 w' g gg n 0 C' F (.slice an ln cn) c := by
      intro C' hC
      refine (app_grow g n C' an ln cn c F w (by omega) (hrw.congr (by simpa using hf)) h1 (by omega)).mono ?_
      rintro e w' ⟨rfl, hb', f', hr', hf'⟩
      refine ⟨_, C', rfl, ?_, ⟨hb.trans (hb'.mono hb.size), ⟨f, hrw.of_block (hb'.block _ hgl), hf⟩, ⟨f', hr', hf'⟩, by omega⟩⟩
      rcases hC with ⟨p, q⟩ | ⟨p, q⟩
      · exact .inr (.inl ⟨rfl, p, q, by omega⟩)
      · exact .inr (.inr ⟨rfl, p, q, by omega⟩)
    by_cases h8 : 2 * n < 8
    · exact key 8 (.inl ⟨h8, rfl⟩)
    · exact key (2 * n) (.inr ⟨by omega, rfl⟩)
  · refine (app_room g n (n + r) an ln cn c f w (by omega) hrw).mono ?_
    rintro e w' ⟨rfl, hg', hr'⟩
    refine ⟨g, n + r, rfl, .inl ⟨by omega, rfl, rfl⟩, ⟨?_, ⟨_, hr', fun j hj => ?_⟩, ⟨f, hr', hf⟩, by omega⟩⟩
    · exact hb.grown hg' hb.size (fun k hk => by simp at hk; omega)
    · unfold putE; rw [if_neg (by omega)]; exact hf j hj

theorem Byt.drewN {w : World} {v : Value} (h : Byt w v) (n : Nat) : Byt (w.drewN n) v := h
theorem LaidE.drewN {w W : World} {g gg n r C' : Nat} {F : Nat → Value} {v : Value} {ec : Int} (h : LaidE w W g gg n r C' F v ec) (m : Nat) : LaidE w (W.drewN m) g gg n r C' F v ec :=
  ⟨⟨h.bel.os, h.bel.tape, h.bel.output, h.bel.size, h.bel.block⟩, h.re, h.rg, h.room⟩

theorem ptr_eq {w W : World} {g gg n r C' : Nat} {F : Nat → Value} {v : Value} {ec : Int} (h : LaidE w W g gg n r C' F v ec) (hcs : (0 < r ∧ C' = n + r ∧ gg = g) ∨ (r = 0 ∧ 2 * n < 8 ∧ C' = 8 ∧ gg ≠ g) ∨ (r = 0 ∧ 8 ≤ 2 * n ∧ C' = 2 * n ∧ gg ≠ g)) :
    (binOp .eql 39 (.pointer (some ⟨gg, 0, none⟩)) (.pointer (some ⟨g, 0, none⟩))).run Yba.prog W = .ok (.bool (decide ((0 : Int) < (r : Int)))) W := by
  obtain ⟨i, hi, _, hs, _⟩ := info_parts Yba.info36
  obtain ⟨f1, ⟨c1, hb1, _⟩, _⟩ := h.re
  obtain ⟨f2, ⟨c2, hb2, _⟩, _⟩ := h.rg
  have other : gg ≠ g → r = 0 → (binOp .eql 39 (.pointer (some ⟨gg, 0, none⟩)) (.pointer (some ⟨g, 0, none⟩))).run Yba.prog W = .ok (.bool (decide ((0 : Int) < (r : Int)))) W := by
    intro hne hr
    rw [run_eql_ptr_other W Yba.underlying39 hi (by omega) (fun e => hne (congrArg Addr.block e)) hb2 hb1]
    rw [decide_eq_false (by omega)]
  rcases hcs with ⟨h0, _, rfl⟩ | ⟨h0, _, _, hne⟩ | ⟨h0, _, _, hne⟩
  · rw [run_eql_ptr_same W _ Yba.underlying39 hi, decide_eq_true (by omega)]
  · exact other hne h0
  · exact other hne h0

theorem walk_big (a0 a1 : Option Addr) (l0 c0 l1 c1 : Nat) (rm : Int) (ae : Option Addr) (le ce : Nat) (ec : Int) (w : World) (h : l1 ≤ 9223372036854775807) (hbig : 65536 < l1) :
    Calls Yba.prog 4 #[.slice a0 l0 c0, .slice a1 l1 c1, .int .u8 rm, .slice ae le ce, .int .u64 ec] w fun e w' => e = .returned (.bool true) ∧ Below w.heap.size w w' := by
  have hb : decide (65536 < (l1 : Int)) = true := decide_eq_true (by omega)
  go_enter Yba.func4, Yba.ntmps4
  go_wp2
  go_ret
  exact ⟨rfl, Below.refl _ _⟩

set_option maxRecDepth 20000 in
set_option maxHeartbeats 800000 in
theorem walk_all (a0 a1 : Option Addr) (l0 c0 b0 o0 l1 c1 b1 o1 : Nat) (A : Nat → Option Addr) (L C : Nat → Nat) (Z : Nat → Int) (rm : Int) (ae : Option Addr) (le ce : Nat) (ec : Int) (w : World)
    (h0 : l0 ≤ 9223372036854775807) (hsm : l1 ≤ 65536) (hrm0 : 0 ≤ rm) (hrm1 : rm ≤ 255) (r : Nat) (hr2 : r ≤ 2) (hr : rm % 3 = (r : Int)) (hin : CameIn w a0 l0 c0 b0 o0 A L C a1 l1 c1 b1 o1 Z ae le ce) :
    Calls Yba.prog 4 #[.slice a0 l0 c0, .slice a1 l1 c1, .int .u8 rm, .slice ae le ce, .int .u64 ec] w fun e w' => e = .returned (.bool true) ∧ Below w.heap.size w w' := by
  have hb : decide (65536 < (l1 : Int)) = false := decide_eq_false (by omega)
  have hmk := run_make_lc (P := Yba.prog) 34 36 (.agg #[.slice none 0 0, .int .u64 0]) 2 32 Yba.underlying34 Yba.info36 .i64 .i64 l1 (l1 + r) l1 (l1 + r) rfl (by omega) (by omega) (by omega) (by omega)
  have HI := hid hin
  clear hin
  go_enter Yba.func4, Yba.ntmps4
  go_wp2
  go_loopw [14] (fun i wr => ∃ k : Nat, k ≤ l1 ∧ i = .int .i64 k ∧ Below w.heap.size w wr ∧ Hid (wr.heap.size = w.heap.size + 1) ∧ Hid (∃ f, wr.rowIs w.heap.size 36 ((l1 + r) * 2) f ∧ ∀ j, j < k * 2 → f j = entF l0 A L C Z j)) (fun i _ => l1 - (intOf i).toNat)
  case atStart => exact ⟨0, Nat.zero_le _, rfl, (Below.refl _ _).alloc (Nat.le_refl _) _, by show (w.alloc _).heap.size = _; simp, hid ⟨_, made_row _ _ _ _, fun j hj => absurd hj (by omega)⟩⟩
  case round =>
    obtain ⟨k, hk, rfl, hbel, hsz, hrow⟩ := hrel
    by_cases hlt : k < l1
    · have hb1 := HI.out.lt1 (by omega)
      have hi1 := HI.out.ix1 k hlt
      have hz : wr.cell? ⟨b1, o1 + k, none⟩ = some (.int .u64 (Z k)) := (hbel.cell (by exact hb1)).trans (HI.out.cl1 k hlt)
      obtain ⟨f, hrw, hf⟩ := hrow.out
      have q0 := hrw.cell (i := k * 2) (by omega)
      have q1 := hrw.cell (i := k * 2 + 1) (by omega)
      have z0 := hrw.frozen (k * 2)
      have z1 := hrw.frozen (k * 2 + 1)
      have R := fun v hv => hid (ent_step (v := v) hrw hf hv)
      have R' := hid R
      clear hrw hf hrow R
      by_cases hkl : k < l0
      · have hb0 := HI.out.lt0 (by omega)
        have hi0 := HI.out.ix0 k hkl
        have hc0 : wr.cell? ⟨b0, o0 + k, none⟩ = some (.slice (A k) (L k) (C k)) := (hbel.cell (by exact hb0)).trans (HI.out.cl0 k hkl)
        have hR := R'.out _ (by rw [entF0, if_pos hkl])
        clear R'
        go_wp2
        go_roundw
        case rel => exact ⟨k + 1, by omega, by go_num, (hbel.setCell (Nat.le_refl _) _).setCell (Nat.le_refl _) _, by show _ = _; rw [← hsz.out]; simp [World.setCell], hR⟩
        case measure => simp [intOf]; omega
      · have hR := R'.out _ (by rw [entF0, if_neg hkl])
        clear R'
        go_wp2
        go_roundw
        case rel => exact ⟨k + 1, by omega, by go_num, (hbel.setCell (Nat.le_refl _) _).setCell (Nat.le_refl _) _, by show _ = _; rw [← hsz.out]; simp [World.setCell], hR⟩
        case measure => simp [intOf]; omega
    · have hrow1 : Hid (∃ f, wr.rowIs w.heap.size 36 ((l1 + r) * 2) f ∧ ∀ j, j < l1 * 2 → f j = entF l0 A L C Z j) := by
        obtain ⟨f, hrw, hf⟩ := hrow.out
        exact hid ⟨f, hrw, fun j hj => hf j (by omega)⟩
      clear hrow
      go_wp2_with fail
      refine (app_any w w.heap.size l1 r ae le ce ec (entF l0 A L C Z) _ hsm hr2 (Nat.le_refl _) (hbel.alloc (by have := hsz.out; omega) _) ?hrr (fun j _ => entF_one _ _ _ _ _ j)).mono ?_
      case hrr =>
        obtain ⟨f, hrw, hf⟩ := hrow1.out
        exact ⟨f, hrw.alloc _, hf⟩
      rintro e w4 ⟨gg, C', rfl, hcs, HL⟩
      have HL := hid HL
      clear hrow1 hsz hbel hmk
      have hroom := HL.out.room
      have t3 : (0 < r ∧ C' ≤ l1 + r ∧ l1 + r ≤ C' ∧ ((r : Int) == 0) = false) ∨ (r ≤ 0 ∧ 2 * l1 < 8 ∧ C' ≤ 8 ∧ 8 ≤ C' ∧ ((r : Int) == 0) = true) ∨ (r ≤ 0 ∧ 8 ≤ 2 * l1 ∧ C' ≤ 2 * l1 ∧ 2 * l1 ≤ C' ∧ ((r : Int) == 0) = true) := by
        rcases hcs with ⟨p, q, _⟩ | ⟨p, q, t, _⟩ | ⟨p, q, t, _⟩
        · exact .inl ⟨p, by omega, by omega, beq_eq_false_iff_ne.2 (by omega)⟩
        · exact .inr (.inl ⟨by omega, q, by omega, by omega, beq_iff_eq.2 (by omega)⟩)
        · exact .inr (.inr ⟨by omega, q, by omega, by omega, beq_iff_eq.2 (by omega)⟩)
      have HCS := hid hcs
      clear hcs
      rcases t3 with ⟨u1, u2, u3, u4⟩ | ⟨u1, u2, u3, u4, u5⟩ | ⟨u1, u2, u3, u4, u5⟩
      all_goals
        go_wp2
        obtain ⟨wo, rfl⟩ : ∃ wo : World, wo = wr := ⟨_, rfl⟩
        go_loopw [19] (fun i wl => ∃ q : Nat, q ≤ l1 ∧ i = .int .i64 q ∧ Hid (LaidE w wl w.heap.size gg l1 r C' (entF l0 A L C Z) (.slice ae le ce) ec)) (fun i _ => l1 - (intOf i).toNat)
        case atStart => exact ⟨0, Nat.zero_le _, rfl, HL⟩
        case round =>
          clear HL
          obtain ⟨q, hq, rfl, HL⟩ := hrel
          by_cases hlq : q < l1
          · have hb1 := HI.out.lt1 (by omega)
            have hi1 := HI.out.ix1 q hlq
            have hz : wr.cell? ⟨b1, o1 + q, none⟩ = some (.int .u64 (Z q)) := (HL.out.bel.cell (by exact hb1)).trans (HI.out.cl1 q hlq)
            have s0 := HL.out.e (j := q * 2) (by omega)
            have s1 := HL.out.e (j := q * 2 + 1) (by omega)
            have t0 := HL.out.g (j := q * 2) (by omega)
            have t1 := HL.out.g (j := q * 2 + 1) (by omega)
            rw [entF1] at s1 t1
            rw [entF0] at s0 t0
            by_cases hkl : q < l0
            · have hb0 := HI.out.lt0 (by omega)
              have hi0 := HI.out.ix0 q hkl
              have hc0 : wr.cell? ⟨b0, o0 + q, none⟩ = some (.slice (A q) (L q) (C q)) := (HL.out.bel.cell (by exact hb0)).trans (HI.out.cl0 q hkl)
              rw [if_pos hkl] at s0 t0
              have HB := hid ((HI.out.by0 q hkl).below HL.out.bel)
              go_wp2
              go_quiet ((go_at_call 10; exact Calls.quiet_of_same (same_self _ _ _ _ (HB.out.drewN _))))
              have hz' : (wr.drewN nq).cell? ⟨b1, o1 + q, none⟩ = some (.int .u64 (Z q)) := hz
              have s0' : (wr.drewN nq).cell? ⟨w.heap.size, q * 2, none⟩ = some (.slice (A q) (L q) (C q)) := s0
              have s1' : (wr.drewN nq).cell? ⟨w.heap.size, q * 2 + 1, none⟩ = some (.int .u64 (Z q)) := s1
              have HB' := hid (HB.out.drewN nq)
              have HL' := hid (HL.out.drewN nq)
              clear hz s0 s1 t0 t1 HB HL
              generalize wr.drewN nq = wz at hz' s0' s1' HB' HL' ⊢
              go_wp2
              go_quiet ((go_at_call 10; exact Calls.quiet_of_same (same_self _ _ _ _ (HB'.out.drewN _))))
              go_wp2
              go_roundw
              case rel => exact ⟨q + 1, by omega, by go_num, hid (HL'.out.drewN _)⟩
              case measure => simp [intOf]; omega
            · rw [if_neg hkl] at s0 t0
              have HB := hid (byt_nil wr)
              go_wp2
              go_quiet ((go_at_call 10; exact Calls.quiet_of_same (same_self _ _ _ _ (HB.out.drewN _))))
              have hz' : (wr.drewN nq).cell? ⟨b1, o1 + q, none⟩ = some (.int .u64 (Z q)) := hz
              have s0' : (wr.drewN nq).cell? ⟨w.heap.size, q * 2, none⟩ = some (.slice none 0 0) := s0
              have s1' : (wr.drewN nq).cell? ⟨w.heap.size, q * 2 + 1, none⟩ = some (.int .u64 (Z q)) := s1
              have HB' := hid (HB.out.drewN nq)
              have HL' := hid (HL.out.drewN nq)
              clear hz s0 s1 t0 t1 HB HL
              generalize wr.drewN nq = wz at hz' s0' s1' HB' HL' ⊢
              go_wp2
              go_quiet ((go_at_call 10; exact Calls.quiet_of_same (same_self _ _ _ _ (HB'.out.drewN _))))
              go_wp2
              go_roundw
              case rel => exact ⟨q + 1, by omega, by go_num, hid (HL'.out.drewN _)⟩
              case measure => simp [intOf]; omega
          · have y0 := HL.out.g0
            have y1 := HL.out.g1
            have HB := hid (HI.out.bye.below HL.out.bel)
            have hpe := fun n => ptr_eq (HL.out.drewN n) HCS.out
            by_cases hz : 0 < l1
            · go_wp2_with (go_at_call 10; refine (same_self _ _ _ _ HB.out).mono ?_; rintro e w' ⟨rfl, rfl⟩)
              go_quiet (fail)
              go_wp2
              go_ret
              exact ⟨rfl, (HL.out.drewN _).bel⟩
            · go_wp2_with (go_at_call 10; refine (same_self _ _ _ _ HB.out).mono ?_; rintro e w' ⟨rfl, rfl⟩)
              first
                | (go_ret; exact ⟨rfl, HL.out.bel⟩)
                | (exfalso; omega)

end Go.Proofs.Ybulkdkas
