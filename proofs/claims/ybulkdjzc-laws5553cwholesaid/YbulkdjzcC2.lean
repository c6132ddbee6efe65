import Derived.Test.YbulkdjzcC1
import Derived.Lib.SliceRun
namespace Go.Proofs.Ybulkdjzc
open Go.RowKit Go.Deep

set_option maxHeartbeats 400000 in
theorem same_rows (g h n c1 c2 : Nat) (K N : Nat → Int) (S : Nat → ByteArray) (w : World) (hn : n ≤ 1048576)
    (r1 : w.rowIs g 43 (n * 3) (valF K N S)) (r2 : w.rowIs h 43 (n * 3) (valF K N S)) :
    Calls Yba.prog 8 #[.slice (some ⟨g, 0, none⟩) n c1, .slice (some ⟨h, 0, none⟩) n c2] w fun e w' => e = .returned (.bool true) ∧ ∃ m, w' = w.drewN m := by
  have R1 := hid r1
  have R2 := hid r2
  clear r1 r2
  have q22 : ∀ (w : World) (a : Option Addr) (n c n' c' : Nat), (binOp .eql 22 (.slice a n c) (.slice none n' c')).run Yba.prog w = .ok (.bool a.isNone) w := fun w a n c n' c' => Lib.run_eql_slice_nil w _ _ a n c n' c' Yba.underlying22
  go_enter Yba.func8, Yba.ntmps8
  go_wp2
  go_loopw [5] (fun i wr => ∃ k : Nat, k ≤ n ∧ i = .int .i64 k ∧ Hid (∃ m, wr = w.drewN m)) (fun i _ => n - (intOf i).toNat)
  case atStart => exact ⟨0, Nat.zero_le _, rfl, hid ⟨0, rfl⟩⟩
  case round =>
    obtain ⟨k, hk, rfl, hw⟩ := hrel
    by_cases hlt : k < n
    · obtain ⟨m, rfl⟩ := hw.out
      have p0 := R1.out.cell (i := k * 3) (by omega)
      have p1 := R1.out.cell (i := k * 3 + 1) (by omega)
      have p2 := R1.out.cell (i := k * 3 + 2) (by omega)
      rw [valF0] at p0; rw [valF1] at p1; rw [valF2] at p2
      have q0 := R2.out.cell (i := k * 3) (by omega)
      have q1 := R2.out.cell (i := k * 3 + 1) (by omega)
      have q2 := R2.out.cell (i := k * 3 + 2) (by omega)
      rw [valF0] at q0; rw [valF1] at q1; rw [valF2] at q2
      go_wp2
      go_quiet (fail)
      go_wp2
      go_roundw
      case rel => exact ⟨k + 1, by omega, by go_num, hid ⟨_, rfl⟩⟩
      case measure => simp [intOf]; omega
    · go_wp2
      go_ret
      exact ⟨rfl, hw.out⟩

theorem same_nil (w : World) : Calls Yba.prog 8 #[.slice none 0 0, .slice none 0 0] w fun e w' => e = .returned (.bool true) ∧ ∃ m, w' = w.drewN m := by
  have q22 : ∀ (w : World) (a : Option Addr) (n c n' c' : Nat), (binOp .eql 22 (.slice a n c) (.slice none n' c')).run Yba.prog w = .ok (.bool a.isNone) w := fun w a n c n' c' => Lib.run_eql_slice_nil w _ _ a n c n' c' Yba.underlying22
  go_enter Yba.func8, Yba.ntmps8
  go_wp2
  refine wp_loop_rounds 1 ?_; rw [rounds_succ]
  go_wp2
  go_ret
  exact ⟨rfl, 0, rfl⟩

theorem Yba.info20 : (Yba.prog.info? 20).map (fun i => (i.zero, i.size, i.bytes)) = some (some .nilIface, 1, 16) := by kernel_rfl

theorem values_nil (rx : Nat) (w : World) (hr : w.cell? ⟨rx, 7, none⟩ = some (.slice none 0 0)) :
    Calls Yba.prog 7 #[.pointer (some ⟨rx, 0, none⟩)] w fun e w' => e = .returned (.slice none 0 0) ∧ w' = w := by
  have q22 : ∀ (w : World) (a : Option Addr) (n c n' c' : Nat), (binOp .eql 22 (.slice a n c) (.slice none n' c')).run Yba.prog w = .ok (.bool a.isNone) w := fun w a n c n' c' => Lib.run_eql_slice_nil w _ _ a n c n' c' Yba.underlying22
  go_enter Yba.func7, Yba.ntmps7
  go_wp2
  go_ret
  exact ⟨rfl, rfl⟩

theorem gval_cases (k n : Int) (s : ByteArray) : (∃ t x, gval k n s = .iface t x) ∨ gval k n s = .nilIface := by
  unfold gval; split
  · exact .inl ⟨_, _, rfl⟩
  · split
    · exact .inl ⟨_, _, rfl⟩
    · exact .inr rfl

/-- the cells of what Values answers -/
def gvF (K N : Nat → Int) (S : Nat → ByteArray) (j : Nat) : Value := gval (K j) (N j) (S j)

theorem val_step {w wr : World} {n k : Nat} {K N : Nat → Int} {S : Nat → ByteArray} {f : Nat → Value} {v : Value} (hbel : Below w.heap.size w wr) (hsz : w.heap.size < wr.heap.size)
    (hr : wr.rowIs w.heap.size 20 n f) (hf : ∀ j, j < k → f j = gvF K N S j) (hv : gval (K k) (N k) (S k) = v) (o1 o2 : Obj) :
    Below w.heap.size w (((wr.setCell ⟨w.heap.size, k, none⟩ v).alloc o1).alloc o2) ∧ w.heap.size < (((wr.setCell ⟨w.heap.size, k, none⟩ v).alloc o1).alloc o2).heap.size ∧
      Hid (∃ f', (((wr.setCell ⟨w.heap.size, k, none⟩ v).alloc o1).alloc o2).rowIs w.heap.size 20 n f' ∧ ∀ j, j < k + 1 → f' j = gvF K N S j) := by
  have e1 : (wr.setCell ⟨w.heap.size, k, none⟩ v).heap.size = wr.heap.size := by simp [World.setCell]
  refine ⟨((hbel.setCell (Nat.le_refl _) _).alloc (by omega) _).alloc (by simp; omega) _, by simp; omega, ⟨_, ((hr.set k v).alloc o1).alloc o2, fun j hj => ?_⟩⟩
  by_cases e : j = k
  · subst e; rw [if_pos rfl]; exact hv.symm
  · rw [if_neg e]; exact hf j (by omega)

set_option maxHeartbeats 400000 in
theorem values_row (rx g n c : Nat) (K N : Nat → Int) (S : Nat → ByteArray) (w : World) (hn : n ≤ 1048576) (hrx : rx < w.heap.size)
    (hr : w.cell? ⟨rx, 7, none⟩ = some (.slice (some ⟨g, 0, none⟩) n c)) (r1 : w.rowIs g 43 (n * 3) (valF K N S)) :
    Calls Yba.prog 7 #[.pointer (some ⟨rx, 0, none⟩)] w fun e w' => e = .returned (.slice (some ⟨w.heap.size, 0, none⟩) n n) ∧ Below w.heap.size w w' ∧ w'.rowIs w.heap.size 20 n (gvF K N S) := by
  have q22 : ∀ (w : World) (a : Option Addr) (n c n' c' : Nat), (binOp .eql 22 (.slice a n c) (.slice none n' c')).run Yba.prog w = .ok (.bool a.isNone) w := fun w a n c n' c' => Lib.run_eql_slice_nil w _ _ a n c n' c' Yba.underlying22
  have hmk := run_make_n (P := Yba.prog) 56 20 .nilIface 1 16 Yba.underlying56 Yba.info20 .i64 .i64 n (by omega) (by omega)
  have hg := r1.lt
  have R1 := hid r1
  clear r1
  go_enter Yba.func7, Yba.ntmps7
  go_wp2
  go_loopw [22] (fun i wr => ∃ k : Nat, k ≤ n ∧ i = .int .i64 k ∧ Below w.heap.size w wr ∧ w.heap.size < wr.heap.size ∧ Hid (∃ f, wr.rowIs w.heap.size 20 n f ∧ ∀ j, j < k → f j = gvF K N S j)) (fun i _ => n - (intOf i).toNat)
  case atStart => exact ⟨0, Nat.zero_le _, rfl, (Below.refl _ _).alloc (Nat.le_refl _) _, by simp, hid ⟨_, World.rowIs_made _ _ _ _, fun j hj => absurd hj (by omega)⟩⟩
  case round =>
    obtain ⟨k, hk, rfl, hbel, hsz, hrow⟩ := hrel
    by_cases hlt : k < n
    · have hbc : ∀ o, wr.cell? ⟨g, o, none⟩ = w.cell? ⟨g, o, none⟩ := fun o => hbel.cell (by exact hg)
      have p0 := R1.out.cell (i := k * 3) (by omega)
      have p1 := R1.out.cell (i := k * 3 + 1) (by omega)
      have p2 := R1.out.cell (i := k * 3 + 2) (by omega)
      rw [valF0] at p0; rw [valF1] at p1; rw [valF2] at p2
      rw [← hbc] at p0 p1 p2
      clear hbc
      obtain ⟨f, hrw, hf⟩ := hrow.out
      have t0 := hrw.cell hlt
      have t1 := hrw.frozen k
      have HR := hid hrw
      have HF := hid hf
      clear hrw hf hrow
      rcases gval_cases (K k) (N k) (S k) with ⟨vt, vx, hv⟩ | hv
      all_goals
        go_wp2_with (go_at_call 11; refine (goValue_any _ _ _ _).mono ?_; rintro e w' ⟨rfl, rfl⟩)
        have R := val_step hbel hsz HR.out HF.out hv
        go_roundw
        case rel => exact ⟨k + 1, by omega, by go_num, R _ _⟩
        case measure => simp [intOf]; omega
    · go_wp2
      go_ret
      have ek : k = n := by omega
      subst ek
      obtain ⟨f, hrw, hf⟩ := hrow.out
      exact ⟨rfl, hbel, hrw.congr hf⟩

end Go.Proofs.Ybulkdjzc
