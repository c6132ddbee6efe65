import Derived.Test.YbulkdkbuW1
import Derived.Below
namespace Go.Proofs.Ybulkdkbu
open Go.RowKit

theorem hid {p : Prop} (h : p) : Hid p := h

set_option maxHeartbeats 400000 in
theorem next_any (b : Nat) (p d t : Int) (w : World) (hp : w.cell? ⟨b, 0, none⟩ = some (.int .u64 p)) (hd : w.cell? ⟨b, 1, none⟩ = some (.int .u64 d)) (fp : w.frozen? ⟨b, 0, none⟩ = false) (fd : w.frozen? ⟨b, 1, none⟩ = false) :
    Calls Yba.prog 5 #[.pointer (some ⟨b, 0, none⟩), .int .i64 t] w fun e w' => e = .returned (.int .i64 (wrap64 (IntKind.u64.wrap (IntKind.u64.wrap (IntKind.u64.wrap t - p) - d)))) ∧ w' = (w.setCell ⟨b, 0, none⟩ (.int .u64 (IntKind.u64.wrap t))).setCell ⟨b, 1, none⟩ (.int .u64 (IntKind.u64.wrap (IntKind.u64.wrap t - p))) := by
  go_enter Yba.func5, Yba.ntmps5
  go_wp2
  go_ret
  exact ⟨rfl, rfl⟩

theorem u_wrap64 (x : Int) : IntKind.u64.wrap (wrap64 x) = IntKind.u64.wrap x := by
  simp only [IntKind.wrap_u64, wrap64]; omega
theorem d1 (p d t : Int) : IntKind.u64.wrap (d + IntKind.u64.wrap (wrap64 (IntKind.u64.wrap (IntKind.u64.wrap (IntKind.u64.wrap t - p) - d)))) = IntKind.u64.wrap (IntKind.u64.wrap t - p) := by
  rw [u_wrap64]; simp only [IntKind.wrap_u64]; omega
theorem d2 (p t : Int) : IntKind.u64.wrap (p + IntKind.u64.wrap (IntKind.u64.wrap t - p)) = IntKind.u64.wrap t := by
  simp only [IntKind.wrap_u64]; omega
theorem d3 (t : Int) (h0 : -9223372036854775808 ≤ t) (h1 : t ≤ 9223372036854775807) : (wrap64 (IntKind.u64.wrap t) != t) = false := by
  have : wrap64 (IntKind.u64.wrap t) = t := by simp only [IntKind.wrap_u64, wrap64]; omega
  rw [this]; simp

theorem dec_big (f : Int) (a1 : Option Addr) (l c : Nat) (w : World) (h : l ≤ 9223372036854775807) (hb : 1048576 < l) :
    Calls Yba.prog 4 #[.int .i64 f, .slice a1 l c] w fun e w' => e = .returned (.bool true) ∧ Below w.heap.size w w' := by
  have hbig : decide (1048576 < (l : Int)) = true := decide_eq_true (by omega)
  go_enter Yba.func4, Yba.ntmps4
  go_wp2
  go_ret
  exact ⟨rfl, Below.refl _ _⟩

/-- the coder's state -/
structure Dst (w W : World) (P D : Int) : Prop where
  bel : Below w.heap.size w W
  c0 : W.cell? ⟨w.heap.size, 0, none⟩ = some (.int .u64 P)
  c1 : W.cell? ⟨w.heap.size, 1, none⟩ = some (.int .u64 D)
  f0 : W.frozen? ⟨w.heap.size, 0, none⟩ = false
  f1 : W.frozen? ⟨w.heap.size, 1, none⟩ = false
theorem Dst.step {w W : World} {P D : Int} (h : Dst w W P D) (P' D' : Int) : Dst w ((W.setCell ⟨w.heap.size, 0, none⟩ (.int .u64 P')).setCell ⟨w.heap.size, 1, none⟩ (.int .u64 D')) P' D' := by
  have e1 : (W.setCell ⟨w.heap.size, 0, none⟩ (.int .u64 P')).cell? ⟨w.heap.size, 1, none⟩ = some (.int .u64 D) := by
    rw [World.cell?_setCell_other _ _ _ _ (by simp)]; exact h.c1
  refine ⟨(h.bel.setCell (Nat.le_refl _) _).setCell (Nat.le_refl _) _, ?_, World.cell?_setCell_same _ _ _ e1, ?_, ?_⟩
  · rw [World.cell?_setCell_other _ _ _ _ (by simp)]; exact World.cell?_setCell_same _ _ _ h.c0
  · rw [World.frozen?_setCell, World.frozen?_setCell]; exact h.f0
  · rw [World.frozen?_setCell, World.frozen?_setCell]; exact h.f1

set_option maxHeartbeats 400000 in
theorem dec_walk (f : Int) (a1 : Option Addr) (l c b o : Nat) (Z : Nat → Int) (w : World) (hl : l ≤ 1048576) (hb : 0 < l → b < w.heap.size)
    (hix : ∀ k, k < l → ∀ w : World, (Instr.indexAt 28 (.slice a1 l c) (.int .i64 (k : Int))).run Yba.prog w = .ok (.pointer (some ⟨b, o + k, none⟩)) w)
    (hc : ∀ k, k < l → w.cell? ⟨b, o + k, none⟩ = some (.int .i64 (Z k)) ∧ -9223372036854775808 ≤ Z k ∧ Z k ≤ 9223372036854775807) :
    Calls Yba.prog 4 #[.int .i64 f, .slice a1 l c] w fun e w' => e = .returned (.bool true) ∧ Below w.heap.size w w' := by
  have hbig : decide (1048576 < (l : Int)) = false := decide_eq_false (by omega)
  have HI := hid hix
  have HC := hid hc
  have HB := hid hb
  clear hix hc hb
  go_enter Yba.func4, Yba.ntmps4
  go_wp2
  go_loopw [6, 7, 8] (fun cu de i wr => ∃ (k : Nat) (P D : Int), k ≤ l ∧ i = .int .i64 k ∧ cu = .int .u64 P ∧ de = .int .u64 D ∧ Hid (Dst w wr P D)) (fun _ _ i _ => l - (intOf i).toNat)
  case atStart => exact ⟨0, _, _, Nat.zero_le _, rfl, rfl, rfl, ⟨(Below.refl _ _).alloc (Nat.le_refl _) _, by simp, by simp, by simp, by simp⟩⟩
  case round =>
    obtain ⟨k, P, D, hk, rfl, rfl, rfl, S⟩ := hrel
    by_cases hlt : k < l
    · have hi := HI.out k hlt
      obtain ⟨hz, hz0, hz1⟩ := HC.out k hlt
      have hbw := HB.out (by omega)
      have hzr : wr.cell? ⟨b, o + k, none⟩ = some (.int .i64 (Z k)) := (S.out.bel.cell (by exact hbw)).trans hz
      have hne : b ≠ w.heap.size := by omega
      have e1 := d1 P D (Z k)
      have e2 := d2 P (Z k)
      have e3 := d3 (Z k) hz0 hz1
      have S' := hid (S.out.step (IntKind.u64.wrap (Z k)) (IntKind.u64.wrap (IntKind.u64.wrap (Z k) - P)))
      clear hz
      go_wp2_with (go_at_call 5; refine (next_any _ P D (Z k) _ S.out.c0 S.out.c1 S.out.f0 S.out.f1).mono ?_; rintro e w' ⟨rfl, rfl⟩)
      go_roundw
      case rel => exact ⟨k + 1, _, _, by omega, by go_num, rfl, rfl, S'⟩
      case measure => simp [intOf]; omega
    · go_wp2
      go_ret
      exact ⟨rfl, S.out.bel⟩

end Go.Proofs.Ybulkdkbu
