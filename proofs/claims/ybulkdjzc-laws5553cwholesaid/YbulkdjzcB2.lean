import Derived.Test.YbulkdjzcB1
import Derived.BigQuiet
import Derived.Deep.QuietTactic
namespace Go.Proofs.Ybulkdjzc
open Go.RowKit Go.Deep

theorem Yba.info3 : (Yba.prog.info? 3).map (fun i => (i.zero, i.size, i.bytes)) = some (some (.int .i64 0), 1, 8) := by kernel_rfl
theorem Yba.info43 : (Yba.prog.info? 43).map (fun i => (i.zero, i.size, i.bytes)) = some (some (.agg #[.int .u8 0, .int .i64 0, .string ⟨#[]⟩]), 3, 32) := by kernel_rfl

theorem Yba.info43' : (Yba.prog.info? 43).map (·.size) = some 3 := by kernel_rfl

/-- the fill of 'columns': k places are filled -/
def colF (Z : Nat → Int) (l0 : Nat) (k : Nat) (j : Nat) : Value := if j < k then .int .i64 (Z j % l0) else .int .i64 0
theorem col_start (Z : Nat → Int) (l0 l1 : Nat) (w : World) : (w.alloc (.cells (madeCells #[.int .i64 0] l1) 3)).rowIs w.heap.size 3 l1 (colF Z l0 0) :=
  (World.rowIs_made w (.int .i64 0) l1 3).congr fun i _ => by simp [colF]
theorem col_step {Z : Nat → Int} {l0 l1 k g : Nat} {w : World} (h : w.rowIs g 3 l1 (colF Z l0 k)) (hk : k < l1) : (w.setCell ⟨g, k, none⟩ (.int .i64 (Z k % l0))).rowIs g 3 l1 (colF Z l0 (k + 1)) :=
  (h.set k _).congr fun i _ => by
    by_cases e : i = k
    · subst e; simp [colF]
    · simp only [colF, if_neg e]
      by_cases h1 : i < k
      · rw [if_pos h1, if_pos (by omega)]
      · rw [if_neg h1, if_neg (by omega)]

/-- the cells of the values, one behind the other -/
def valF (K N : Nat → Int) (S : Nat → ByteArray) (j : Nat) : Value := if j % 3 = 0 then .int .u8 (K (j / 3)) else if j % 3 = 1 then .int .i64 (N (j / 3)) else .string (S (j / 3))
theorem valF0 (K N : Nat → Int) (S : Nat → ByteArray) (i : Nat) : valF K N S (i * 3) = .int .u8 (K i) := by
  have e1 : i * 3 % 3 = 0 := by omega
  have e2 : i * 3 / 3 = i := by omega
  simp [valF, e2]
theorem valF1 (K N : Nat → Int) (S : Nat → ByteArray) (i : Nat) : valF K N S (i * 3 + 1) = .int .i64 (N i) := by
  have e1 : (i * 3 + 1) % 3 = 1 := by omega
  have e2 : (i * 3 + 1) / 3 = i := by omega
  simp [valF, e1, e2]
theorem valF2 (K N : Nat → Int) (S : Nat → ByteArray) (i : Nat) : valF K N S (i * 3 + 2) = .string (S i) := by
  have e1 : (i * 3 + 2) % 3 = 2 := by omega
  have e2 : (i * 3 + 2) / 3 = i := by omega
  simp [valF, e1, e2]
theorem valF_one (K N : Nat → Int) (S : Nat → ByteArray) (j : Nat) : (valF K N S j).oneCell' = true := by
  unfold valF; split
  · rfl
  · split <;> rfl
theorem val_src {w W : World} {b0 o0 l0 : Nat} {K N : Nat → Int} {S : Nat → ByteArray} (hb : Below w.heap.size w W) (hb0 : b0 < w.heap.size)
    (hc0 : ∀ i, i < l0 → w.cell? ⟨b0, o0 + i * 3, none⟩ = some (.int .u8 (K i)) ∧ w.cell? ⟨b0, o0 + i * 3 + 1, none⟩ = some (.int .i64 (N i)) ∧ w.cell? ⟨b0, o0 + i * 3 + 2, none⟩ = some (.string (S i))) :
    0 < l0 → ∃ ad, some (⟨b0, o0, none⟩ : Addr) = some ad ∧ ∀ j, j < l0 * 3 → W.cell? (ad.add j) = some (valF K N S j) := by
  intro _
  refine ⟨_, rfl, fun j hj => ?_⟩
  rw [addr_add, hb.cell (by exact hb0)]
  obtain ⟨h1, h2, h3⟩ := hc0 (j / 3) (by omega)
  have hr : j % 3 = 0 ∨ j % 3 = 1 ∨ j % 3 = 2 := by omega
  rcases hr with hr | hr | hr
  · rw [show o0 + j = o0 + j / 3 * 3 by omega, h1]; simp [valF, hr]
  · rw [show o0 + j = o0 + j / 3 * 3 + 1 by omega, h2]; simp [valF, hr]
  · rw [show o0 + j = o0 + j / 3 * 3 + 2 by omega, h3]; simp [valF, hr]
structure Laid (w W : World) (g1 g2 g3 ix l0 l1 : Nat) (K N : Nat → Int) (S : Nat → ByteArray) (C : Nat → Nat) : Prop where
  bel : Below w.heap.size w W
  r1 : W.rowIs g1 3 l1 (fun j => .int .i64 (C j))
  r2 : W.rowIs g2 43 (l0 * 3) (valF K N S)
  r3 : W.rowIs g3 3 l1 (fun j => .int .i64 (C j))
  cx : W.cell? ⟨ix, 2, none⟩ = some (.slice (some ⟨g1, 0, none⟩) l1 l1)

theorem laid_of {w wr w2 w3 : World} {l0 l1 : Nat} {K N Z : Nat → Int} {S : Nat → ByteArray} {o2 o3 : Obj} {x0 x1 : Value} {xs : List Value} {t : Nat} {C : Nat → Nat}
    (hpos : 0 < l0) (hC : ∀ j, C j = (Z j % l0).toNat) (hbel : Below w.heap.size w wr) (hsz : wr.heap.size = w.heap.size + 1) (hrow1 : wr.rowIs w.heap.size 3 l1 (fun j => .int .i64 (Z j % l0)))
    (hr2 : w2.rowIs wr.heap.size 43 (l0 * 3) (valF K N S)) (hb2 : Below wr.heap.size (wr.alloc o2) w2) (hs2 : w2.heap.size = (wr.alloc o2).heap.size)
    (hr3 : w3.rowIs w2.heap.size 3 (l1 * 1) (fun j => .int .i64 (Z j % l0))) (hb3 : Below w2.heap.size (w2.alloc o3) w3) (hs3 : w3.heap.size = (w2.alloc o3).heap.size) :
    Laid w (w3.alloc (.cells (x0 :: x1 :: .slice (some ⟨w.heap.size, 0, none⟩) l1 l1 :: xs).toArray t)) w.heap.size wr.heap.size w2.heap.size w3.heap.size l0 l1 K N S C := by
  have e2 : w2.heap.size = wr.heap.size + 1 := by rw [hs2]; simp
  have e3 : w3.heap.size = w2.heap.size + 1 := by rw [hs3]; simp
  have hv : ∀ i, i < l1 → Value.int .i64 (Z i % l0) = Value.int .i64 (C i) := fun i _ => by
    rw [hC i, Int.toNat_of_nonneg (Int.emod_nonneg _ (by omega))]
  have b3 : Below w.heap.size w w3 := ((((hbel.alloc (by omega) o2).trans (hb2.mono (by omega))).alloc (by omega) o3).trans (hb3.mono (by omega)))
  refine ⟨b3.alloc (by omega) _, ((row_carry (row_carry hrow1 hb2) hb3).congr hv).alloc _, (row_carry hr2 hb3).alloc _, ?_, ?_⟩
  · rw [Nat.mul_one] at hr3
    exact (hr3.congr hv).alloc _
  · simp

theorem Laid.alloc {w W : World} {g1 g2 g3 ix l0 l1 : Nat} {K N : Nat → Int} {S : Nat → ByteArray} {C : Nat → Nat} (h : Laid w W g1 g2 g3 ix l0 l1 K N S C) (hix : ix < W.heap.size) (o : Obj) : Laid w (W.alloc o) g1 g2 g3 ix l0 l1 K N S C :=
  ⟨h.bel.alloc h.bel.size o, h.r1.alloc o, h.r2.alloc o, h.r3.alloc o, (World.cell?_alloc_lt _ _ _ (by exact hix)).trans h.cx⟩
theorem Laid.drewN {w W : World} {g1 g2 g3 ix l0 l1 : Nat} {K N : Nat → Int} {S : Nat → ByteArray} {C : Nat → Nat} (h : Laid w W g1 g2 g3 ix l0 l1 K N S C) (n : Nat) : Laid w (W.drewN n) g1 g2 g3 ix l0 l1 K N S C :=
  ⟨⟨h.bel.os, h.bel.tape, h.bel.output, h.bel.size, h.bel.block⟩, h.r1, h.r2, h.r3, h.cx⟩

set_option maxHeartbeats 400000 in
theorem walk_pos (a1 : Option Addr) (l0 c0 l1 c1 b0 o0 b1 o1 : Nat) (K N : Nat → Int) (S : Nat → ByteArray) (Z : Nat → Int) (w : World)
    (hpos : 0 < l0) (hsum : l0 + l1 ≤ 1048576) (hb0 : b0 < w.heap.size) (hb1 : 0 < l1 → b1 < w.heap.size)
    (hc0 : ∀ i, i < l0 → w.cell? ⟨b0, o0 + i * 3, none⟩ = some (.int .u8 (K i)) ∧ w.cell? ⟨b0, o0 + i * 3 + 1, none⟩ = some (.int .i64 (N i)) ∧ w.cell? ⟨b0, o0 + i * 3 + 2, none⟩ = some (.string (S i)))
    (hix1 : ∀ c, c < l1 → ∀ w : World, (Instr.indexAt 23 (.slice a1 l1 c1) (.int .i64 (c : Int))).run Yba.prog w = .ok (.pointer (some ⟨b1, o1 + c, none⟩)) w)
    (hc1 : ∀ i, i < l1 → w.cell? ⟨b1, o1 + i, none⟩ = some (.int .u8 (Z i)) ∧ 0 ≤ Z i ∧ Z i ≤ 255) :
    Calls Yba.prog 3 #[.slice (some ⟨b0, o0, none⟩) l0 c0, .slice a1 l1 c1] w fun e w' => e = .returned (.bool true) ∧ Below w.heap.size w w' := by
  have HC0 := hid hc0
  have HI1 := hid hix1
  have HC1 := hid hc1
  have HB1 := hid hb1
  clear hc0 hix1 hc1 hb1
  have hmk1 := run_make_n (P := Yba.prog) 24 3 (.int .i64 0) 1 8 Yba.underlying24 Yba.info3 .i64 .i64 l1 (by omega) (by omega)
  have hmk0 := run_make_n (P := Yba.prog) 22 43 (.agg #[.int .u8 0, .int .i64 0, .string ⟨#[]⟩]) 3 32 Yba.underlying22 Yba.info43 .i64 .i64 l0 (by omega) (by omega)
  have hbig : decide (1048576 < (l0 : Int) + (l1 : Int)) = false := decide_eq_false (by omega)
  go_enter Yba.func3, Yba.ntmps3
  go_wp2
  go_loopw [30] (fun i wr => ∃ k : Nat, k ≤ l1 ∧ i = .int .i64 k ∧ Hid (wr.rowIs w.heap.size 3 l1 (colF Z l0 k)) ∧ Below w.heap.size w wr ∧ Hid (wr.heap.size = w.heap.size + 1)) (fun i _ => l1 - (intOf i).toNat)
  case atStart => exact ⟨0, Nat.zero_le _, rfl, col_start Z l0 l1 w, (Below.refl _ _).alloc (Nat.le_refl _) _, by show (w.alloc _).heap.size = _; simp⟩
  case round =>
    obtain ⟨k, hk, rfl, hrow, hbel, hsz⟩ := hrel
    by_cases hlt : k < l1
    · have hb1 := HB1.out (by omega)
      have hi1 := HI1.out k hlt
      obtain ⟨hz, hz0, hz1⟩ := HC1.out k hlt
      have hzr : wr.cell? ⟨b1, o1 + k, none⟩ = some (.int .u8 (Z k)) := (hbel.cell hb1).trans hz
      have hgr := hrow.out.cell hlt
      have hgf := hrow.out.frozen k
      clear hz
      go_wp2
      go_roundw
      case rel => exact ⟨k + 1, by omega, by go_num, col_step hrow.out hlt, hbel.setCell (Nat.le_refl _) _, by show _ = _; rw [← hsz.out]; simp [World.setCell]⟩
      case measure => simp [intOf]; omega
    · have ek : k = l1 := by omega
      have hrow1 : Hid (wr.rowIs w.heap.size 3 l1 (fun j => .int .i64 (Z j % l0))) := hid ((ek ▸ hrow.out : wr.rowIs w.heap.size 3 l1 (colF Z l0 l1)).congr fun i hi => by simp [colF, hi])
      clear hrow ek
      have hszb := hsz.out
      have hbA : ∀ o, Below w.heap.size w (wr.alloc o) := fun o => hbel.alloc (by omega) o
      have HbA := hid hbA
      clear hszb hbA
      have tok1 : True := trivial
      go_wp2_with (first
        | (have _t := tok1; refine wpList_copy_cells rfl (.tmp 47) (.tmp 48) 22 22 rfl 43 3 Yba.underlying22 (by kernel_rfl) _ l0 _ _ _ rfl rfl 43 (valF K N S) _ (made_row _ _ _ _) (val_src (HbA.out _) hb0 HC0.out) (fun j _ => valF_one K N S j) ?_; intro w2 hr2 hb2 hs2; clear tok1)
        | (have _t := hr2; refine wpList_copy_cells rfl (.tmp 53) (.tmp 54) 24 24 rfl 3 1 Yba.underlying24 (by kernel_rfl) _ l1 _ _ _ rfl rfl 3 (fun j => .int .i64 (Z j % l0)) _ (by rw [Nat.mul_one]; exact made_row _ _ _ _) (row_src ((row_carry hrow1.out hb2).alloc _)) (fun _ _ => rfl) ?_; intro w3 hr3 hb3 hs3))
      obtain ⟨C, hC⟩ : ∃ C : Nat → Nat, ∀ j, C j = (Z j % l0).toNat := ⟨_, fun _ => rfl⟩
      have hCl : ∀ j, C j < l0 := fun j => by rw [hC j]; have := Int.emod_lt_of_pos (Z j) (show (0 : Int) < l0 by omega); have := Int.emod_nonneg (Z j) (show (l0 : Int) ≠ 0 by omega); omega
      have L3 := laid_of (N := N) (S := S) (x0 := .string ⟨#[]⟩) (x1 := .pointer none) (xs := [.bool false, .pointer none, .nilIface, .pointer none, .pointer none, .slice none 0 0, .pointer none, .slice none 0 0, .pointer none, .pointer none]) (t := 39) hpos hC hbel hsz.out hrow1.out hr2.out hb2 hs2.out hr3.out hb3 hs3.out
      have e2 : w2.heap.size = wr.heap.size + 1 := by rw [hs2.out]; simp
      have e3 : w3.heap.size = w2.heap.size + 1 := by rw [hs3.out]; simp
      have hb30 : b0 < w3.heap.size := by have := hsz.out; omega
      refine (hn_any (some ⟨b0, o0, none⟩) (some ⟨w.heap.size, 0, none⟩) l0 c0 b0 o0 w3.heap.size w.heap.size l1 l1 C K _ (by omega) (by simp) (fun _ _ => by simp; omega) (fun _ _ => by have := L3.r1.lt; exact this) L3.cx ?hx (fun c hc => (L3.bel.cell hb0).trans (HC0.out c hc).1) ?hg (fun j hj => L3.r1.cell hj) (fun j _ => hCl j)).mono ?_
      case hg => exact fun c hc W => by simpa using run_index_n 24 3 1 Yba.underlying24 (by kernel_rfl) w.heap.size 0 l1 l1 c hc W
      case hx => exact fun c hc W => run_index_n 22 43 3 Yba.underlying22 (by kernel_rfl) b0 o0 l0 c0 c hc W
      rintro e w4 ⟨rfl, hw4⟩
      have HL : Hid (Laid w w4 w.heap.size wr.heap.size w2.heap.size w3.heap.size l0 l1 K N S C) := hid (by rw [hw4]; exact L3.alloc (by simp) _)
      have HCl := hid hCl
      clear hw4 L3 e2 e3 hC hmk0 hmk1 hCl HI1 HC1 HB1 hbel hsz hrow1 hr2 hb2 hs2 hr3 hb3 hs3 HbA hk hlt
      go_wp2
      go_loop [12, 13] (fun t i => ∃ m : Nat, m ≤ l1 ∧ i = .int .i64 m ∧ t = .bool (anyB (fun j => K (C j) == 0) m)) (fun _ i => l1 - (intOf i).toNat)
      case atStart => exact ⟨0, Nat.zero_le _, rfl, rfl⟩
      case round =>
        obtain ⟨m, hm, rfl, rfl⟩ := hrel
        by_cases hlt : m < l1
        · have q1 := HL.out.r3.cell hlt
          have q3 := HCl.out m
          have q2 := HL.out.r2.cell (i := C m * 3) (by omega)
          rw [valF0] at q2
          go_wp2
          all_goals
            go_round
            case rel => exact ⟨m + 1, by omega, by go_num, by rw [anyB_succ]; simp [*]⟩
            case measure => simp [intOf]; omega
        · have em : m = l1 := by omega
          go_wp2
          obtain ⟨wo, rfl⟩ : ∃ wo : World, wo = wr := ⟨_, rfl⟩
          go_loopw [14] (fun i wl => ∃ q : Nat, q ≤ l0 ∧ i = .int .i64 q ∧ Hid (Laid w wl w.heap.size wo.heap.size w2.heap.size w3.heap.size l0 l1 K N S C)) (fun i _ => l0 - (intOf i).toNat)
          case atStart => exact ⟨0, Nat.zero_le _, rfl, HL⟩
          case round =>
            clear HL
            obtain ⟨q, hq, rfl, HL⟩ := hrel
            by_cases hlt : q < l0
            · obtain ⟨p0, p1, p2⟩ := HC0.out q hlt
              have hbc : ∀ o, wr.cell? ⟨b0, o, none⟩ = w.cell? ⟨b0, o, none⟩ := fun o => HL.out.bel.cell (by exact hb0)
              rw [← hbc] at p0 p1 p2
              have q0 := HL.out.r2.cell (i := q * 3) (by omega)
              have q1 := HL.out.r2.cell (i := q * 3 + 1) (by omega)
              have q2 := HL.out.r2.cell (i := q * 3 + 2) (by omega)
              rw [valF0] at q0; rw [valF1] at q1; rw [valF2] at q2
              clear hbc
              go_wp2
              go_quiet (fail)
              go_wp2
              go_roundw
              case rel => exact ⟨q + 1, by omega, by go_num, hid (HL.out.drewN _)⟩
              case measure => simp [intOf]; omega
            · have hcx := HL.out.cx
              go_wp2
              clear hcx
              obtain ⟨wp, rfl⟩ : ∃ wp : World, wp = wr := ⟨_, rfl⟩
              go_loopw [15] (fun i wl => ∃ r : Nat, r ≤ l1 ∧ i = .int .i64 r ∧ Hid (Laid w wl w.heap.size wo.heap.size w2.heap.size w3.heap.size l0 l1 K N S C)) (fun i _ => l1 - (intOf i).toNat)
              case atStart => exact ⟨0, Nat.zero_le _, rfl, HL⟩
              case round =>
                clear HL
                obtain ⟨r, hr, rfl, HL⟩ := hrel
                by_cases hlr : r < l1
                · have hcx := HL.out.cx
                  have s1 := HL.out.r1.cell hlr
                  have s3 := HL.out.r3.cell hlr
                  go_wp2
                  go_quiet (fail)
                  go_wp2
                  go_roundw
                  case rel => exact ⟨r + 1, by omega, by go_num, hid (HL.out.drewN _)⟩
                  case measure => simp [intOf]; omega
                · go_wp2
                  go_ret
                  exact ⟨rfl, HL.out.bel⟩

/-- Beyond the size: true at once. -/
theorem walk_big (a0 a1 : Option Addr) (l0 c0 l1 c1 : Nat) (w : World) (h0 : l0 ≤ 140737488355328) (h1 : l1 ≤ 140737488355328) (hsum : 1048576 < l0 + l1) :
    Calls Yba.prog 3 #[.slice a0 l0 c0, .slice a1 l1 c1] w fun e w' => e = .returned (.bool true) ∧ Below w.heap.size w w' := by
  have hbig : decide (1048576 < (l0 : Int) + (l1 : Int)) = true := decide_eq_true (by omega)
  go_enter Yba.func3, Yba.ntmps3
  go_wp2
  go_ret
  exact ⟨rfl, Below.refl _ _⟩

set_option maxHeartbeats 400000 in
/-- No value at all. -/
theorem walk_empty (a0 a1 : Option Addr) (c0 l1 c1 : Nat) (w : World) (hsum : l1 ≤ 1048576) :
    Calls Yba.prog 3 #[.slice a0 0 c0, .slice a1 l1 c1] w fun e w' => e = .returned (.bool true) ∧ Below w.heap.size w w' := by
  have hmk1 := run_make_n (P := Yba.prog) 24 3 (.int .i64 0) 1 8 Yba.underlying24 Yba.info3 .i64 .i64 0 (by omega) (by omega)
  have hmk0 := run_make_n (P := Yba.prog) 22 43 (.agg #[.int .u8 0, .int .i64 0, .string ⟨#[]⟩]) 3 32 Yba.underlying22 Yba.info43 .i64 .i64 0 (by omega) (by omega)
  rw [Int.natCast_zero] at hmk1 hmk0
  have hbig : decide (1048576 < (l1 : Int)) = false := decide_eq_false (by omega)
  have tok1 : True := trivial
  go_enter Yba.func3, Yba.ntmps3
  go_wp2_with (first
    | (have _t := tok1; refine wpList_copy_cells rfl (.tmp 47) (.tmp 48) 22 22 rfl 43 3 Yba.underlying22 (by kernel_rfl) _ 0 _ _ _ rfl rfl 43 (fun _ => .bool true) _ (made_row _ _ _ _) (fun h => absurd h (by omega)) (fun _ _ => rfl) ?_; intro w2 hr2 hb2 hs2; clear tok1)
    | (have _t := hr2; refine wpList_copy_cells rfl (.tmp 53) (.tmp 54) 24 24 rfl 3 1 Yba.underlying24 (by kernel_rfl) _ 0 _ _ _ rfl rfl 3 (fun _ => .bool true) _ (made_row _ _ _ _) (fun h => absurd h (by omega)) (fun _ _ => rfl) ?_; intro w3 hr3 hb3 hs3))
  refine (hn_any a0 none 0 c0 0 0 w3.heap.size 0 0 0 (fun _ => 0) (fun _ => 0) _ (by omega) (by simp) (fun _ h => absurd h (by omega)) (fun _ h => absurd h (by omega)) (by simp) (fun _ h => absurd h (by omega)) (fun _ h => absurd h (by omega)) (fun _ h => absurd h (by omega)) (fun _ h => absurd h (by omega)) (fun _ h => absurd h (by omega))).mono ?_
  rintro e w4 ⟨rfl, hw4⟩
  have e2 : w2.heap.size = w.heap.size + 1 := by rw [hs2.out]; simp
  have e3 : w3.heap.size = w2.heap.size + 1 := by rw [hs3.out]; simp
  have hany : anyB (fun _ => ((0 : Int) == 0)) 0 = false := rfl
  have b4 : Below w.heap.size w w4 := by
    have b3 : Below w.heap.size w w3 := (((((Below.refl _ _).alloc (Nat.le_refl _) _).trans (hb2.mono (by omega))).alloc (by omega) _).trans (hb3.mono (by omega)))
    rw [hw4]; exact (b3.alloc (by omega) _).alloc (by simp; omega) _
  have hcx : w4.cell? ⟨w3.heap.size, 2, none⟩ = some (.slice none 0 0) := by rw [hw4, World.cell?_alloc_lt _ _ _ (by simp)]; simp
  clear hw4 e2 e3
  go_wp2
  refine wp_loop_rounds 1 ?_; rw [rounds_succ]
  go_wp2
  refine wp_loop_rounds 1 ?_; rw [rounds_succ]
  go_wp2
  refine wp_loop_rounds 1 ?_; rw [rounds_succ]
  go_wp2
  go_ret
  exact ⟨rfl, b4⟩

end Go.Proofs.Ybulkdjzc
