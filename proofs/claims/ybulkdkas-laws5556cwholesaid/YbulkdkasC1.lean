import Derived.Test.YbulkdkasRows
import Derived.Test.YbulkdkasKit
import Derived.BigQuiet
import Derived.BigRegion
import Derived.Deep.QuietTactic
import Derived.Lib.SliceRun
import Derived.Laws.BytesArg
namespace Go.Proofs.Ybulkdkas
open Go.RowKit Go.Deep

/-- A byte slice whose bytes can be read. -/
def Byt (w : World) (v : Value) : Prop := ∃ ao n c, v = .slice ao n c ∧ (n = 0 ∨ ∃ (b o : Nat) (xs : List Int), ao = some ⟨b, o, none⟩ ∧ b < w.heap.size ∧ xs.length = n ∧ ∀ i, i < n → w.cell? ⟨b, o + i, none⟩ = some (.int .u8 (xs.getD i 0)))
theorem Byt.below {w W : World} {v : Value} (h : Byt w v) (hb : Below w.heap.size w W) : Byt W v := by
  obtain ⟨ao, n, c, hv, h0 | ⟨b, o, xs, ha, hlt, hl, hc⟩⟩ := h
  · exact ⟨ao, n, c, hv, .inl h0⟩
  · exact ⟨ao, n, c, hv, .inr ⟨b, o, xs, ha, Nat.lt_of_lt_of_le hlt hb.size, hl, fun i hi => (hb.cell (by exact hlt)).trans (hc i hi)⟩⟩
theorem byt_nil (w : World) : Byt w (.slice none 0 0) := ⟨_, _, _, rfl, .inl rfl⟩
/-- 'string(b)' of such a slice. -/
theorem Byt.conv {w : World} {v : Value} (h : Byt w v) : ∃ s, (convert 32 9 v).run Yba.prog w = .ok (.string s) w := by
  obtain ⟨ao, n, c, rfl, h0 | ⟨b, o, xs, rfl, hlt, hl, hc⟩⟩ := h
  · subst h0
    refine ⟨ByteArray.empty, ?_⟩
    rw [run_convert_bytes_string _ 32 9 5 _ 0 c Yba.underlying32 Yba.underlying5 Yba.underlying9]
    cases ao <;> simp [Conv.bytesToString, loadCells]
    all_goals rfl
  · exact ⟨_, run_convert_bytes_arg w 32 5 Yba.underlying32 Yba.underlying5 b o n c xs hl hc 9 Yba.underlying9⟩

theorem equal_self (ao : Option Addr) (n c : Nat) (w : World) (h : Byt w (.slice ao n c)) :
    Calls Yba.prog 12 #[.slice ao n c, .slice ao n c] w fun e w' => e = .returned (.bool true) ∧ w' = w := by
  obtain ⟨s, hs⟩ := h.conv
  clear h
  go_enter Yba.func12, Yba.ntmps12
  go_wp2
  go_ret
  exact ⟨rfl, rfl⟩

theorem same_self (ao : Option Addr) (n c : Nat) (w : World) (h : Byt w (.slice ao n c)) :
    Calls Yba.prog 10 #[.slice ao n c, .slice ao n c] w fun e w' => e = .returned (.bool true) ∧ w' = w := by
  have q32 : ∀ (w : World) (a : Option Addr) (n c n' c' : Nat), (binOp .eql 32 (.slice a n c) (.slice none n' c')).run Yba.prog w = .ok (.bool a.isNone) w := fun w a n c n' c' => Lib.run_eql_slice_nil w _ _ a n c n' c' Yba.underlying32
  have H := hid h
  clear h
  go_enter Yba.func10, Yba.ntmps10
  go_wp2_with (go_at_call 12; refine (equal_self _ _ _ _ H.out).mono ?_; rintro e w' ⟨rfl, rfl⟩)
  go_ret
  exact ⟨rfl, rfl⟩

theorem Yba.info36 : (Yba.prog.info? 36).map (fun i => (i.zero, i.size, i.bytes)) = some (some (.agg #[.slice none 0 0, .int .u64 0]), 2, 32) := by kernel_rfl

/-- the two cells of one entry -/
def entV (v : Value) (c : Int) (j : Nat) : Value := if j = 0 then v else .int .u64 c
/-- a row with an entry laid at place n -/
def putE (f : Nat → Value) (n : Nat) (v : Value) (c : Int) (j : Nat) : Value := if n * 2 ≤ j ∧ j < n * 2 + 1 * 2 then entV v c (j - n * 2) else f j

theorem ent_src (w : World) (v : Value) (c : Int) (g : Nat) (hg : g = w.heap.size) : ∀ j, j < 1 * 2 → (w.alloc (.cells #[v, .int .u64 c] 36)).cell? ((⟨g, 0, none⟩ : Addr).add j) = some (entV v c j) := by
  subst hg
  intro j hj
  rw [addr_add]
  have : j = 0 ∨ j = 1 := by omega
  rcases this with rfl | rfl <;> simp [entV]

theorem grown_of {g : Nat} {w w' : World} {o1 o2 : Obj} (h : Only g ((w.alloc o1).alloc o2) w') : w.grownBy w' (some g) := by
  refine ⟨h.os, h.tape, h.output, by rw [h.size]; simp; omega, fun k hk hne => ?_⟩
  rw [h.block k (fun e => hne (by rw [e])), Below.heap_alloc _ _ _ (by simp; omega), Below.heap_alloc _ _ _ hk]

set_option maxHeartbeats 400000 in
/-- appendDecoded where there is room. -/
theorem app_room (g n cap : Nat) (an : Option Addr) (ln cn : Nat) (c : Int) (f : Nat → Value) (w : World) (hn : n < cap) (hrow : w.rowIs g 36 (cap * 2) f) :
    Calls Yba.prog 9 #[.slice (some ⟨g, 0, none⟩) n cap, .agg #[.slice an ln cn, .int .u64 c]] w fun e w' =>
      e = .returned (.slice (some ⟨g, 0, none⟩) (n + 1) cap) ∧ w.grownBy w' (some g) ∧ w'.rowIs g 36 (cap * 2) (putE f n (.slice an ln cn) c) := by
  have hne : ((n : Int) == (cap : Int)) = false := beq_eq_false_iff_ne.2 (by omega)
  have HR := hid hrow
  clear hrow
  go_enter Yba.func9, Yba.ntmps9
  go_wp2_with (at_builtin; refine wpList_append_row rfl (.tmp 22) (.tmp 24) 34 rfl 36 2 Yba.underlying34 (by kernel_rfl) g n cap 1 1 _ rfl rfl (entV (.slice an ln cn) c) f ((HR.out.alloc _).alloc _) (by omega) (ent_src _ _ _ _ (by simp)) (fun j hj => by unfold entV; split <;> rfl) ?_; intro w2 hr2 ho2)
  go_ret
  exact ⟨rfl, grown_of ho2.out, hr2.out⟩

theorem size_one (w : World) (o : Obj) : w.heap.size + 1 = (w.alloc o).heap.size := by simp

theorem box_cells {w w2 : World} {v c : Value} {t : Nat} {o2 : Obj} (h : Only (w.heap.size + 1) ((w.alloc (.cells #[v, c] t)).alloc o2) w2) : w2.cell? ⟨w.heap.size, 0, none⟩ = some v ∧ w2.cell? ⟨w.heap.size, 1, none⟩ = some c := by
  have hb : w2.heap[w.heap.size]? = (w.alloc (.cells #[v, c] t)).heap[w.heap.size]? := by
    rw [h.block _ (by omega), Below.heap_alloc _ _ _ (by simp)]
  constructor
  · rw [World.cell?_of_block (w := w.alloc (.cells #[v, c] t)) (a := ⟨w.heap.size, 0, none⟩) hb]; simp
  · rw [World.cell?_of_block (w := w.alloc (.cells #[v, c] t)) (a := ⟨w.heap.size, 1, none⟩) hb]; simp

theorem below_of_only {w w2 w3 : World} {o1 o2 o3 : Obj} {B : Nat} (h2 : Only (w.heap.size + 1) ((w.alloc o1).alloc o2) w2) (h3 : Only (w.heap.size + 1) (w2.alloc o3) w3) (hB : B = w.heap.size) : Below B w w3 := by
  subst hB
  have e2 : w2.heap.size = w.heap.size + 2 := by rw [h2.size]; simp
  exact ((((((Below.refl _ _).alloc (Nat.le_refl _) o1).alloc (by simp) o2).trans (h2.below (by omega))).alloc (by omega) o3)).trans (h3.below (by omega))

set_option maxHeartbeats 400000 in
/-- appendDecoded where the row is full. -/
theorem app_grow (g n C : Nat) (an : Option Addr) (ln cn : Nat) (c : Int) (F : Nat → Value) (w : World) (hcap : n ≤ 1048576) (hrow : w.rowIs g 36 (n * 2) F) (h1 : ∀ j, j < n * 2 → (F j).oneCell' = true) (hC : (2 * n ≤ 8 ∧ C = 8) ∨ (8 < 2 * n ∧ C = 2 * n)) :
    Calls Yba.prog 9 #[.slice (some ⟨g, 0, none⟩) n n, .agg #[.slice an ln cn, .int .u64 c]] w fun e w' =>
      e = .returned (.slice (some ⟨w.heap.size + 1, 0, none⟩) (n + 1) C) ∧ Below w.heap.size w w' ∧ ∃ f, w'.rowIs (w.heap.size + 1) 36 (C * 2) (putE f n (.slice an ln cn) c) ∧ ∀ j, j < n * 2 → f j = F j := by
  have HR := hid hrow
  have H1 := hid h1
  clear hrow h1
  rcases hC with ⟨h8, rfl⟩ | ⟨h8, rfl⟩
  · have hmk := run_make_lc (P := Yba.prog) 34 36 (.agg #[.slice none 0 0, .int .u64 0]) 2 32 Yba.underlying34 Yba.info36 .i64 .i64 n 8 n 8 rfl rfl (by omega) (by omega) (by omega)
    have tok1 : True := trivial
    go_enter Yba.func9, Yba.ntmps9
    go_wp2_with (first
      | (have _t := tok1; refine wpList_copy_cells rfl (.tmp 18) (.tmp 19) 34 34 rfl 36 2 Yba.underlying34 (by kernel_rfl) (w.heap.size + 1) n _ _ (16) _ rfl rfl 36 F _ (made_row_at _ _ _ (w.heap.size + 1) _ (size_one _ _)) (by omega) (fun _ => ⟨_, rfl, fun j hj => by rw [addr_add, Nat.zero_add]; exact ((HR.out.alloc _).alloc _).cell hj⟩) H1.out ?_; intro w2 hr2 ho2; obtain ⟨bx0, bx1⟩ := box_cells ho2.out; clear tok1)
      | (at_builtin; refine wpList_append_row rfl (.tmp 22) (.tmp 24) 34 rfl 36 2 Yba.underlying34 (by kernel_rfl) _ n (8) 1 1 _ rfl rfl (entV (.slice an ln cn) c) _ (hr2.out.alloc _) (by omega) (ent_src _ _ _ _ (by simp)) (fun j hj => by unfold entV; split <;> rfl) ?_; intro w3 hr3 ho3))
    go_ret
    exact ⟨rfl, below_of_only ho2.out ho3.out rfl, _, hr3.out, fun j hj => if_pos hj⟩
  · have hmk := run_make_lc (P := Yba.prog) 34 36 (.agg #[.slice none 0 0, .int .u64 0]) 2 32 Yba.underlying34 Yba.info36 .i64 .i64 n (2 * n) n (2 * n) rfl (by omega) (by omega) (by omega) (by omega)
    have tok1 : True := trivial
    go_enter Yba.func9, Yba.ntmps9
    go_wp2_with (first
      | (have _t := tok1; refine wpList_copy_cells rfl (.tmp 18) (.tmp 19) 34 34 rfl 36 2 Yba.underlying34 (by kernel_rfl) (w.heap.size + 1) n _ _ (2 * n * 2) _ rfl rfl 36 F _ (made_row_at _ _ _ (w.heap.size + 1) _ (size_one _ _)) (by omega) (fun _ => ⟨_, rfl, fun j hj => by rw [addr_add, Nat.zero_add]; exact ((HR.out.alloc _).alloc _).cell hj⟩) H1.out ?_; intro w2 hr2 ho2; obtain ⟨bx0, bx1⟩ := box_cells ho2.out; clear tok1)
      | (at_builtin; refine wpList_append_row rfl (.tmp 22) (.tmp 24) 34 rfl 36 2 Yba.underlying34 (by kernel_rfl) _ n (2 * n) 1 1 _ rfl rfl (entV (.slice an ln cn) c) _ (hr2.out.alloc _) (by omega) (ent_src _ _ _ _ (by simp)) (fun j hj => by unfold entV; split <;> rfl) ?_; intro w3 hr3 ho3))
    go_ret
    exact ⟨rfl, below_of_only ho2.out ho3.out rfl, _, hr3.out, fun j hj => if_pos hj⟩

end Go.Proofs.Ybulkdkas
