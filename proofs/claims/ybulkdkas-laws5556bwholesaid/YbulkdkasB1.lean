import Derived.Test.YbulkdkasRows
import Derived.Test.YbulkdkasKit
import Derived.BigQuiet
import Derived.BigRegion
import Derived.Deep.QuietTactic
import Derived.Lib.SliceRun
namespace Go.Proofs.Ybulkdkas
open Go.RowKit Go.Deep

/-- the cells of a list of members, one behind the other -/
def memF (M : List (Int × Int)) (j : Nat) : Value := if j % 2 = 0 then .int .i32 (M.getD (j / 2) (0, 0)).1 else .int .u32 (M.getD (j / 2) (0, 0)).2
theorem memF0 (M : List (Int × Int)) (i : Nat) : memF M (i * 2) = .int .i32 (M.getD i (0, 0)).1 := by
  have e2 : i * 2 / 2 = i := by omega
  simp [memF, e2]
theorem memF1 (M : List (Int × Int)) (i : Nat) : memF M (i * 2 + 1) = .int .u32 (M.getD i (0, 0)).2 := by
  have e1 : (i * 2 + 1) % 2 = 1 := by omega
  have e2 : (i * 2 + 1) / 2 = i := by omega
  simp [memF, e1, e2]

theorem Yba.info45 : (Yba.prog.info? 45).map (fun i => (i.zero, i.size, i.bytes)) = some (some (.agg #[.int .i32 0, .int .u32 0]), 2, 8) := by kernel_rfl

/-- A slice of members that came in, as the walks ask it: 'type' its slice type. -/
structure MemsIn (w : World) (t : TypeId) (ao : Option Addr) (l c b o : Nat) (M : List (Int × Int)) : Prop where
  len : M.length = l
  ix : ∀ k, k < l → ∀ w : World, (Instr.indexAt t (.slice ao l c) (.int .i64 (k : Int))).run Yba.prog w = .ok (.pointer (some ⟨b, o + k * 2, none⟩)) w
  lt : 0 < l → b < w.heap.size
  c0 : ∀ k, k < l → w.cell? ⟨b, o + k * 2, none⟩ = some (.int .i32 (M.getD k (0, 0)).1)
  c1 : ∀ k, k < l → w.cell? ⟨b, o + k * 2 + 1, none⟩ = some (.int .u32 (M.getD k (0, 0)).2)
theorem MemsIn.below {w W : World} {t : TypeId} {ao : Option Addr} {l c b o : Nat} {M : List (Int × Int)} (h : MemsIn w t ao l c b o M) (hb : Below w.heap.size w W) : MemsIn W t ao l c b o M :=
  ⟨h.len, h.ix, fun h0 => Nat.lt_of_lt_of_le (h.lt h0) hb.size, fun k hk => (hb.cell (by exact h.lt (by omega))).trans (h.c0 k hk), fun k hk => (hb.cell (by exact h.lt (by omega))).trans (h.c1 k hk)⟩

/-- a clock: a slice over a row of the call's own, or nil -/
structure Clk (w : World) (ca : Option Addr) (l g : Nat) (M : List (Int × Int)) : Prop where
  len : M.length = l
  at0 : 0 < l → ca = some ⟨g, 0, none⟩
  row : 0 < l → w.rowIs g 45 (l * 2) (memF M)

theorem mem_step {w : World} {g m k : Nat} {M : List (Int × Int)} {f : Nat → Value} (h : w.rowIs g 45 m f) (hf : ∀ j, j < k * 2 → f j = memF M j) :
    ∃ f', ((w.setCell ⟨g, k * 2, none⟩ (.int .i32 (M.getD k (0, 0)).1)).setCell ⟨g, k * 2 + 1, none⟩ (.int .u32 (M.getD k (0, 0)).2)).rowIs g 45 m f' ∧ ∀ j, j < (k + 1) * 2 → f' j = memF M j := by
  refine ⟨_, (h.set _ _).set _ _, fun j hj => ?_⟩
  by_cases e1 : j = k * 2 + 1
  · subst e1; rw [if_pos rfl, memF1]
  · rw [if_neg e1]
    by_cases e0 : j = k * 2
    · subst e0; rw [if_pos rfl, memF0]
    · rw [if_neg e0]; exact hf j (by omega)

theorem clock_nil (w : World) : Calls Yba.prog 5 #[.slice none 0 0] w fun e w' => e = .returned (.slice none 0 0) ∧ w' = w := by
  have q22 : ∀ (w : World) (a : Option Addr) (n c n' c' : Nat), (binOp .eql 22 (.slice a n c) (.slice none n' c')).run Yba.prog w = .ok (.bool a.isNone) w := fun w a n c n' c' => Lib.run_eql_slice_nil w _ _ a n c n' c' Yba.underlying22
  go_enter Yba.func5, Yba.ntmps5
  go_wp2
  go_ret
  exact ⟨rfl, rfl⟩

set_option maxHeartbeats 400000 in
theorem clock_some (x : Addr) (l c b o : Nat) (M : List (Int × Int)) (w : World) (hl : l ≤ 1048576) (hin : MemsIn w 22 (some x) l c b o M) :
    Calls Yba.prog 5 #[.slice (some x) l c] w fun e w' => e = .returned (.slice (some ⟨w.heap.size, 0, none⟩) l l) ∧ Below w.heap.size w w' ∧ w'.heap.size = w.heap.size + 1 ∧ w'.rowIs w.heap.size 45 (l * 2) (memF M) := by
  have q22 : ∀ (w : World) (a : Option Addr) (n c n' c' : Nat), (binOp .eql 22 (.slice a n c) (.slice none n' c')).run Yba.prog w = .ok (.bool a.isNone) w := fun w a n c n' c' => Lib.run_eql_slice_nil w _ _ a n c n' c' Yba.underlying22
  have hmk := run_make_n (P := Yba.prog) 24 45 (.agg #[.int .i32 0, .int .u32 0]) 2 8 Yba.underlying24 Yba.info45 .i64 .i64 l (by omega) (by omega)
  have HI := hid hin
  clear hin
  go_enter Yba.func5, Yba.ntmps5
  go_wp2
  go_loopw [4] (fun i wr => ∃ k : Nat, k ≤ l ∧ i = .int .i64 k ∧ Below w.heap.size w wr ∧ Hid (wr.heap.size = w.heap.size + 1) ∧ Hid (∃ f, wr.rowIs w.heap.size 45 (l * 2) f ∧ ∀ j, j < k * 2 → f j = memF M j)) (fun i _ => l - (intOf i).toNat)
  case atStart => exact ⟨0, Nat.zero_le _, rfl, (Below.refl _ _).alloc (Nat.le_refl _) _, by show (w.alloc _).heap.size = _; simp, hid ⟨_, made_row _ _ _ _, fun j hj => absurd hj (by omega)⟩⟩
  case round =>
    obtain ⟨k, hk, rfl, hbel, hsz, hrow⟩ := hrel
    by_cases hlt : k < l
    · have hi := HI.out.ix k hlt
      have hbw := HI.out.lt (by omega)
      have p0 := (hbel.cell (p := ⟨b, o + k * 2, none⟩) (by exact hbw)).trans (HI.out.c0 k hlt)
      have p1 := (hbel.cell (p := ⟨b, o + k * 2 + 1, none⟩) (by exact hbw)).trans (HI.out.c1 k hlt)
      obtain ⟨f, hr, hf⟩ := hrow.out
      have q0 := hr.cell (i := k * 2) (by omega)
      have q1 := hr.cell (i := k * 2 + 1) (by omega)
      have z0 := hr.frozen (k * 2)
      have z1 := hr.frozen (k * 2 + 1)
      have R := hid (mem_step (M := M) hr hf)
      clear hr hf hrow
      generalize (M.getD k (0, 0)).1 = mh at p0 R
      generalize (M.getD k (0, 0)).2 = mc at p1 R
      go_wp2
      go_region
      all_goals go_wp2
      all_goals go_roundw
      case rel => exact ⟨k + 1, by omega, by go_num, (((hbel.setCell (Nat.le_refl _) _).setCell (Nat.le_refl _) _)).drew, by show _ = _; rw [← hsz.out]; simp [World.setCell, World.drew], R⟩
      case measure => simp [intOf]; omega
    · go_wp2
      go_ret
      have ek : k = l := by omega
      subst ek
      obtain ⟨f, hr, hf⟩ := hrow.out
      exact ⟨rfl, hbel, hsz.out, hr.congr hf⟩

/-- zzs5556bclock, one contract for all. -/
theorem clock_any (ao : Option Addr) (l c b o : Nat) (M : List (Int × Int)) (w : World) (hl : l ≤ 1048576) (hn : ao = none → l = 0 ∧ c = 0) (hin : MemsIn w 22 ao l c b o M) :
    Calls Yba.prog 5 #[.slice ao l c] w fun e w' => ∃ ca g, e = .returned (.slice ca l l) ∧ ca.isNone = ao.isNone ∧ Below w.heap.size w w' ∧ w.heap.size ≤ g ∧ Clk w' ca l g M := by
  cases ao with
  | none =>
    obtain ⟨rfl, rfl⟩ := hn rfl
    refine (clock_nil w).mono ?_
    rintro e w' ⟨rfl, rfl⟩
    exact ⟨none, _, rfl, rfl, Below.refl _ _, Nat.le_refl _, hin.len, fun h => absurd h (by omega), fun h => absurd h (by omega)⟩
  | some x =>
    refine (clock_some x l c b o M w hl hin).mono ?_
    rintro e w' ⟨rfl, hb, _, hr⟩
    exact ⟨_, _, rfl, rfl, hb, Nat.le_refl _, hin.len, fun _ => rfl, fun _ => hr⟩

end Go.Proofs.Ybulkdkas
