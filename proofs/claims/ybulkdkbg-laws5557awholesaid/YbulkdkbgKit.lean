import Derived.WalkKit
import Derived.WalkSpells
import Derived.WalkLawsBesides
import Derived.Deep.OwnRows
import Derived.Laws.CopyRow
import Derived.Laws.IdiomCopy
namespace Go.Proofs.Ybulkdkbg
open Go.RowKit Go.Deep

theorem hid {p : Prop} (h : p) : Hid p := h

/-- 'make([]T, n)', T of 'size' cells: an equation for every world. -/
theorem run_make_n {P : Program} (t e : TypeId) (z : Value) (size bytes : Nat) (ht : P.underlying t = some (.slice e)) (hinfo : (P.info? e).map (fun i => (i.zero, i.size, i.bytes)) = some (some z, size, bytes))
    (kl kc : IntKind) (n : Nat) (hbytes : bytes * n ≤ 281474976710656) (h63 : n ≤ 9223372036854775807) (w : World) :
    (Instr.makeSlice t (.int kl (n : Int)) (.int kc (n : Int))).run P w = .ok (.slice (some ⟨w.heap.size, 0, none⟩) n n) (w.alloc (.cells (madeCells z.cells (n * size)) e)) := by
  obtain ⟨i, hi, hz, hs, hb⟩ := info_parts hinfo
  have hb' : (i.bytes : Int) * (n : Int) ≤ 281474976710656 := by
    have h : ((i.bytes * n : Nat) : Int) ≤ 281474976710656 := by rw [hb]; omega
    rwa [Int.natCast_mul] at h
  have hr := run_make (P := P) w t e i z ht hi hz kl kc n n (by omega) (Int.le_refl _) hb' (by omega)
  simp only [Int.toNat_natCast, hs] at hr
  exact hr

/-- 'make([]T, l, c)'. -/
theorem run_make_lc {P : Program} (t e : TypeId) (z : Value) (size bytes : Nat) (ht : P.underlying t = some (.slice e)) (hinfo : (P.info? e).map (fun i => (i.zero, i.size, i.bytes)) = some (some z, size, bytes))
    (kl kc : IntKind) (l c : Nat) (L C : Int) (hL : L = (l : Int)) (hC : C = (c : Int)) (hlc : l ≤ c) (hbytes : bytes * c ≤ 281474976710656) (h63 : c ≤ 9223372036854775807) (w : World) :
    (Instr.makeSlice t (.int kl L) (.int kc C)).run P w = .ok (.slice (some ⟨w.heap.size, 0, none⟩) l c) (w.alloc (.cells (madeCells z.cells (c * size)) e)) := by
  subst hL; subst hC
  obtain ⟨i, hi, hz, hs, hb⟩ := info_parts hinfo
  have hb' : (i.bytes : Int) * (c : Int) ≤ 281474976710656 := by
    have h : ((i.bytes * c : Nat) : Int) ≤ 281474976710656 := by rw [hb]; omega
    rwa [Int.natCast_mul] at h
  have hr := run_make (P := P) w t e i z ht hi hz kl kc l c (by omega) (by omega) hb' (by omega)
  simp only [Int.toNat_natCast, hs] at hr
  exact hr

theorem made_row (w : World) (z : Array Value) (N : Nat) (t : TypeId) : (w.alloc (.cells (madeCells z N) t)).rowIs w.heap.size t N (fun i => z[i % z.size]!) :=
  ⟨madeCells z N, blk_alloc_new _ _, size_madeCells _ _, fun i hi => by simp [madeCells, hi]⟩

theorem made_row_at (w : World) (z : Array Value) (N g : Nat) (t : TypeId) (hg : g = w.heap.size) : (w.alloc (.cells (madeCells z N) t)).rowIs g t N (fun i => z[i % z.size]!) := by
  subst hg; exact made_row w z N t

/-- One block alone may have turned. -/
structure Only (g : Nat) (w w' : World) : Prop where
  os : w'.os = w.os
  tape : w'.tape = w.tape
  output : w'.output = w.output
  size : w'.heap.size = w.heap.size
  block : ∀ k, k ≠ g → w'.heap[k]? = w.heap[k]?
theorem Only.below {g B : Nat} {w w' : World} (h : Only g w w') (hB : B ≤ g) : Below B w w' := ⟨h.os, h.tape, h.output, by rw [h.size]; exact Nat.le_refl _, fun k hk => h.block k (by omega)⟩
theorem Only.refl (g : Nat) (w : World) : Only g w w := ⟨rfl, rfl, rfl, rfl, fun _ _ => rfl⟩
theorem only_setRow (g : Nat) (w : World) (cs : Array Value) : Only g w (w.setRow g cs) := ⟨rfl, rfl, rfl, by simp [World.setRow], fun k hk => setRow_other w g k cs (by omega)⟩
theorem row_only {w w2 : World} {g g' e n : Nat} {f : Nat → Value} (h : w.rowIs g e n f) (ho : Only g' w w2) (hne : g ≠ g') : w2.rowIs g e n f := h.of_block (ho.block _ hne)

/-- A run of cells laid over a row, from place 'p' on. -/
theorem lay_row {w : World} {g t N p m : Nat} {f F : Nat → Value} {cur : Array Value} (hg : w.heap[g]? = some (.cells cur t (0, 0))) (hcs : cur.size = N) (hcf : ∀ i, i < N → cur[i]? = some (f i)) (hp : p + m ≤ N) :
    (w.setRow g (cur.toList.take p ++ (List.range m).map F ++ cur.toList.drop (p + m)).toArray).rowIs g t N (fun j => if p ≤ j ∧ j < p + m then F (j - p) else f j) := by
  refine ⟨_, setRow_heap w g cur _ t _ hg, by simp; omega, fun i hi => ?_⟩
  simp only [List.getElem?_toArray, List.append_assoc]
  by_cases h1 : i < p
  · rw [List.getElem?_append_left (by simp; omega), if_neg (by omega)]
    rw [List.getElem?_take, if_pos h1]
    simpa using hcf i hi
  · rw [List.getElem?_append_right (by simp; omega)]
    have e1 : (List.take p cur.toList).length = p := by simp; omega
    rw [e1]
    by_cases h2 : i < p + m
    · rw [List.getElem?_append_left (by simp; omega), if_pos ⟨by omega, h2⟩]
      simp [show i - p < m by omega]
    · rw [List.getElem?_append_right (by simp; omega), if_neg (by omega)]
      simp only [List.length_map, List.length_range, List.getElem?_drop]
      rw [show p + m + (i - p - m) = i by omega]
      simpa using hcf i hi

/-- 'copy' of a whole slice onto the head of a row of the call's own, elements of 'size' cells. -/
theorem run_copy_cells {P : Program} (w : World) (dT sT ty elem : TypeId) (g dCap : Nat) (sp : Option Addr) (n sCap size N : Nat) (t : TypeId) (F f : Nat → Value)
    (hu : P.underlying dT = some (.slice elem)) (hs : (P.info? elem).map (·.size) = some size)
    (hrow : w.rowIs g t N f) (hN : n * size ≤ N)
    (hsrc : 0 < n → ∃ a, sp = some a ∧ ∀ j, j < n * size → w.cell? (a.add j) = some (F j)) (h1 : ∀ j, j < n * size → (F j).oneCell' = true) :
    ∃ w', (Builtin.copy_ #[dT, sT] ty #[.slice (some ⟨g, 0, none⟩) n dCap, .slice sp n sCap]).run P w = .ok (goInt n) w' ∧
      w'.rowIs g t N (fun j => if j < n * size then F j else f j) ∧ Only g w w' := by
  obtain ⟨cur, hg, hcs, hcf⟩ := hrow
  cases hq : P.info? elem with
  | none => simp [hq] at hs
  | some i =>
    have hi : i.size = size := by simpa [hq] using hs
    by_cases h0 : n = 0
    · subst h0
      refine ⟨w, ?_, ⟨cur, hg, hcs, fun i hi => by simpa using hcf i hi⟩, Only.refl _ _⟩
      cases sp with
      | none => simp [Builtin.copy_, run_underlying hu, Builtin.lenOf, Builtin.firstCells, sizeOf, typeInfo, hq, storeCells]
      | some a =>
        have hl := run_loadCells_list (P := P) w a [] (by simp)
        simp only [List.length_nil] at hl
        simp [Builtin.copy_, run_underlying hu, Builtin.lenOf, Builtin.firstCells, sizeOf, typeInfo, hq, storeCells, hl]
    · obtain ⟨a, rfl, hsc⟩ := hsrc (by omega)
      have hlen : ((List.range (n * size)).map F).length = n * size := by simp
      have hl := run_loadCells_list (P := P) w a ((List.range (n * size)).map F) (by
        intro j v hj
        by_cases hjn : j < n * size
        · simp [hjn] at hj; subst hj; exact hsc j hjn
        · simp [hjn] at hj)
      have hst := run_storeCells_at P g 0 t ((List.range (n * size)).map F) 0 cur w hg (by simp [hcs]; omega) (by
        intro v hv
        simp only [List.mem_map, List.mem_range] at hv
        obtain ⟨j, hj, rfl⟩ := hv
        exact h1 j hj)
      rw [hlen] at hl hst
      refine ⟨_, ?_, (lay_row (p := 0) (m := n * size) (F := F) hg hcs hcf (by omega)).congr (fun j _ => by simp), only_setRow g w _⟩
      simp [Builtin.copy_, run_underlying hu, Builtin.lenOf, Builtin.firstCells, sizeOf, typeInfo, hq, hi, hl, hst]

theorem wpList_copy_cells {P : Program} {w : World} {ops : Array Oper} {rest : List Oper} {o : Oper} {a : Act} {Q : Exit → Act → World → Prop} (hgd : o.guard = none) (d s : Operand) (dT sT : TypeId)
    (ho : o.op = .call { callee := .builtin .copy, args := #[d, s], argTypes := #[dT, sT] }) (elem : TypeId) (size : Nat) (hu : P.underlying dT = some (.slice elem)) (hs : (P.info? elem).map (·.size) = some size)
    (g n dCap sCap N : Nat) (sp : Option Addr) (hd : a.eval d = .slice (some ⟨g, 0, none⟩) n dCap) (hsv : a.eval s = .slice sp n sCap)
    (t : TypeId) (F f : Nat → Value) (hrow : w.rowIs g t N f) (hN : n * size ≤ N)
    (hsrc : 0 < n → ∃ ad, sp = some ad ∧ ∀ j, j < n * size → w.cell? (ad.add j) = some (F j)) (h1 : ∀ j, j < n * size → (F j).oneCell' = true)
    (h : ∀ w', Hid (w'.rowIs g t N (fun j => if j < n * size then F j else f j)) → Hid (Only g w w') → wpList P ops Q rest (a.put o.dst (goInt n)) w') :
    wpList P ops Q (o :: rest) a w := by
  refine wpList_plain hgd fun K hK => ?_
  obtain ⟨w', hrun, r1, r2⟩ := run_copy_cells (P := P) w dT sT o.type elem g dCap sp n sCap size N t F f hu hs hrow hN hsrc h1
  unfold Oper.wp
  simp [execOp, ho, resolve, invoke, builtin, hd, hsv, hrun, Result.andThen]
  exact hK _ _ (h w' r1 r2)

/-- 'append' of some elements onto a row of the call's own that has room. -/
theorem wpList_append_row {P : Program} {w : World} {ops : Array Oper} {rest : List Oper} {o : Oper} {a : Act} {Q : Exit → Act → World → Prop} (hgd : o.guard = none) (s x : Operand) (t : TypeId)
    (ho : o.op = Op.call { callee := Callee.builtin Builtin.append, args := #[s, x], argTypes := #[t, t] }) (e : TypeId) (size : Nat) (ht : P.underlying t = some (.slice e)) (hs : (P.info? e).map (·.size) = some size)
    (g n cap m c : Nat) (ad : Addr) (hsv : a.eval s = .slice (some ⟨g, 0, none⟩) n cap) (hx : a.eval x = .slice (some ad) m c)
    (F f : Nat → Value) (hrow : w.rowIs g e (cap * size) f) (hroom : n + m ≤ cap)
    (hsrc : ∀ j, j < m * size → w.cell? (ad.add j) = some (F j)) (h1 : ∀ j, j < m * size → (F j).oneCell' = true)
    (h : ∀ w', Hid (w'.rowIs g e (cap * size) (fun j => if n * size ≤ j ∧ j < n * size + m * size then F (j - n * size) else f j)) → Hid (Only g w w') → wpList P ops Q rest (a.put o.dst (.slice (some ⟨g, 0, none⟩) (n + m) cap)) w') :
    wpList P ops Q (o :: rest) a w := by
  refine wpList_plain hgd fun K hK => ?_
  obtain ⟨cur, hg, hcs, hcf⟩ := hrow
  cases hq : P.info? e with
  | none => simp [hq] at hs
  | some i =>
    have hi : i.size = size := by simpa [hq] using hs
    subst hi
    have hfit : n * i.size + m * i.size ≤ cap * i.size := by rw [← Nat.add_mul]; exact Nat.mul_le_mul_right _ hroom
    have hr := run_append_room (P := P) w t o.type e i ht hq g n cap cur hg ad m c ((List.range (m * i.size)).map F) (by simp)
      (by
        intro j u hj
        by_cases hjn : j < m * i.size
        · simp [hjn] at hj; subst hj; exact hsrc j hjn
        · simp [hjn] at hj)
      (by
        intro v hv
        simp only [List.mem_map, List.mem_range] at hv
        obtain ⟨j, hj, rfl⟩ := hv
        exact h1 j hj) hroom (by simp [hcs]; omega)
    unfold Oper.wp
    simp [execOp, ho, resolve, invoke, builtin, hsv, hx, hr, Result.andThen]
    refine hK _ _ (h _ (hid ?_) (only_setRow g w _))
    have := lay_row (w := w) (p := n * i.size) (m := m * i.size) (F := F) hg hcs hcf hfit
    simpa [List.append_assoc] using this

theorem addr_add (b o j : Nat) : (⟨b, o, none⟩ : Addr).add j = ⟨b, o + j, none⟩ := by unfold Addr.add; split <;> simp_all

/-- An index into a slice, within its length. -/
theorem run_index_n {P : Program} (t e : TypeId) (size : Nat) (ht : P.underlying t = some (.slice e)) (hs : (P.info? e).map (·.size) = some size) (b o l cap c : Nat) (hc : c < l) (W : World) :
    (Instr.indexAt t (.slice (some ⟨b, o, none⟩) l cap) (.int .i64 (c : Int))).run P W = .ok (.pointer (some ⟨b, o + c * size, none⟩)) W := by
  have he : P.elem t = e := by simp [Program.elem, ht]
  rw [run_indexAt_slice W t ⟨b, o, none⟩ l cap .i64 c (by rw [he]; exact ht), if_pos ⟨by omega, by omega⟩, he]
  cases hq : P.info? e with
  | none => simp [hq] at hs
  | some i =>
    have hi : i.size = size := by simpa [hq] using hs
    simp [sizeOf, typeInfo, hq, hi, addr_add]

theorem row_carry {w w2 : World} {g e n : Nat} {f : Nat → Value} {o : Obj} (h : w.rowIs g e n f) (hb : Below w.heap.size (w.alloc o) w2) : w2.rowIs g e n f := (h.alloc o).of_block (hb.block _ h.lt)

theorem row_src {W : World} {g n e : Nat} {f : Nat → Value} (h : W.rowIs g e n f) : 0 < n → ∃ ad, some (⟨g, 0, none⟩ : Addr) = some ad ∧ ∀ j, j < n * 1 → W.cell? (ad.add j) = some (f j) := by
  intro _
  refine ⟨_, rfl, fun j hj => ?_⟩
  rw [addr_add, Nat.zero_add]
  exact h.cell (by omega)

end Go.Proofs.Ybulkdkbg
