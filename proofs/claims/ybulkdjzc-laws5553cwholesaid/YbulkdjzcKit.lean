import Derived.WalkKit
import Derived.WalkSpells
import Derived.WalkLawsBesides
import Derived.Deep.OwnRows
import Derived.Laws.CopyRow
import Derived.Laws.IdiomCopy
namespace Go.Proofs.Ybulkdjzc
open Go.RowKit Go.Deep

theorem hid {p : Prop} (h : p) : Hid p := h

/-- 'make([]T, n)', T of 'size' cells: an equation for every world. -/
theorem run_make_n {P : Program} (t e : TypeId) (z : Value) (size bytes : Nat) (ht : P.underlying t = some (.slice e)) (hinfo : (P.info? e).map (fun i => (i.zero, i.size, i.bytes)) = some (some z, size, bytes))
    (kl kc : IntKind) (n : Nat) (hbytes : bytes * n ≤ 281474976710656) (h63 : n ≤ 9223372036854775807) (w : World) :
    (Instr.makeSlice t (.int kl (n : Int)) (.int kc (n : Int))).run P w = .ok (.slice (some ⟨w.heap.size, 0, none⟩) n n) (w.alloc (.cells (madeCells z.cells (n * size)) e)) := by
  obtain ⟨i, hi, hz, hs, hb⟩ := info_parts hinfo
  have hb' : (i.bytes : Int) * (n : Int) ≤ 281474976710656 := by
    have h : ((i.bytes * n : Nat) : Int) ≤ 281474976710656 := by rw [hb]; omega
    rwa [Int.natCast_mul] at h
  have hr := run_make (P := P) w t e i z ht hi hz kl kc n n (by omega) (Int.le_refl _) hb' (by omega)
  simp only [Int.toNat_natCast, hs] at hr
  exact hr

theorem made_row (w : World) (z : Array Value) (N : Nat) (t : TypeId) : (w.alloc (.cells (madeCells z N) t)).rowIs w.heap.size t N (fun i => z[i % z.size]!) :=
  ⟨madeCells z N, blk_alloc_new _ _, size_madeCells _ _, fun i hi => by simp [madeCells, hi]⟩

/-- 'copy' of a whole slice over a whole row of the call's own, elements of 'size' cells. -/
theorem run_copy_cells {P : Program} (w : World) (dT sT ty elem : TypeId) (g dCap : Nat) (sp : Option Addr) (n sCap size : Nat) (t : TypeId) (F f : Nat → Value)
    (hu : P.underlying dT = some (.slice elem)) (hs : (P.info? elem).map (·.size) = some size)
    (hrow : w.rowIs g t (n * size) f)
    (hsrc : 0 < n → ∃ a, sp = some a ∧ ∀ j, j < n * size → w.cell? (a.add j) = some (F j)) (h1 : ∀ j, j < n * size → (F j).oneCell' = true) :
    ∃ w', (Builtin.copy_ #[dT, sT] ty #[.slice (some ⟨g, 0, none⟩) n dCap, .slice sp n sCap]).run P w = .ok (goInt n) w' ∧
      w'.rowIs g t (n * size) F ∧ Below g w w' ∧ w'.heap.size = w.heap.size := by
  obtain ⟨cur, hg, hcs, hcf⟩ := hrow
  cases hq : P.info? elem with
  | none => simp [hq] at hs
  | some i =>
    have hi : i.size = size := by simpa [hq] using hs
    by_cases h0 : n = 0
    · subst h0
      refine ⟨w, ?_, ⟨cur, hg, hcs, fun i hi => absurd hi (by omega)⟩, Below.refl _ _, rfl⟩
      cases sp with
      | none => simp [Builtin.copy_, run_underlying hu, Builtin.lenOf, Builtin.firstCells, sizeOf, typeInfo, hq, storeCells]
      | some a =>
        have hl := run_loadCells_list (P := P) w a [] (by simp)
        simp only [List.length_nil] at hl
        simp [Builtin.copy_, run_underlying hu, Builtin.lenOf, Builtin.firstCells, sizeOf, typeInfo, hq, storeCells, hl]
    · obtain ⟨a, rfl, hsc⟩ := hsrc (by omega)
      have hlen : ((List.range (n * size)).map F).length = n * size := by simp
      have hl := run_loadCells_list (P := P) w a ((List.range (n * size)).map F) (by
        intro j v hj
        by_cases hjn : j < n * size
        · simp [hjn] at hj; subst hj; exact hsc j hjn
        · simp [hjn] at hj)
      have hst := run_storeCells_at P g 0 t ((List.range (n * size)).map F) 0 cur w hg (by simp [hcs]) (by
        intro v hv
        simp only [List.mem_map, List.mem_range] at hv
        obtain ⟨j, hj, rfl⟩ := hv
        exact h1 j hj)
      rw [hlen] at hl
      refine ⟨w.setRow g ((List.range (n * size)).map F).toArray, ?_, ⟨((List.range (n * size)).map F).toArray, setRow_heap w g cur _ t _ hg, by simp, fun i hi => by simp [hi]⟩, ⟨rfl, rfl, rfl, by simp [World.setRow], fun k hk => setRow_other w g k _ (by omega)⟩, by simp [World.setRow]⟩
      have : cur.size ≤ n * size := by omega
      simp [Builtin.copy_, run_underlying hu, Builtin.lenOf, Builtin.firstCells, sizeOf, typeInfo, hq, hi, hl, hst]
      rw [List.drop_eq_nil_of_le (by simpa using this), List.append_nil]

theorem wpList_copy_cells {P : Program} {w : World} {ops : Array Oper} {rest : List Oper} {o : Oper} {a : Act} {Q : Exit → Act → World → Prop} (hgd : o.guard = none) (d s : Operand) (dT sT : TypeId)
    (ho : o.op = .call { callee := .builtin .copy, args := #[d, s], argTypes := #[dT, sT] }) (elem : TypeId) (size : Nat) (hu : P.underlying dT = some (.slice elem)) (hs : (P.info? elem).map (·.size) = some size)
    (g n dCap sCap : Nat) (sp : Option Addr) (hd : a.eval d = .slice (some ⟨g, 0, none⟩) n dCap) (hsv : a.eval s = .slice sp n sCap)
    (t : TypeId) (F f : Nat → Value) (hrow : w.rowIs g t (n * size) f)
    (hsrc : 0 < n → ∃ ad, sp = some ad ∧ ∀ j, j < n * size → w.cell? (ad.add j) = some (F j)) (h1 : ∀ j, j < n * size → (F j).oneCell' = true)
    (h : ∀ w', Hid (w'.rowIs g t (n * size) F) → Below g w w' → Hid (w'.heap.size = w.heap.size) → wpList P ops Q rest (a.put o.dst (goInt n)) w') :
    wpList P ops Q (o :: rest) a w := by
  refine wpList_plain hgd fun K hK => ?_
  obtain ⟨w', hrun, r1, r2, r3⟩ := run_copy_cells (P := P) w dT sT o.type elem g dCap sp n sCap size t F f hu hs hrow hsrc h1
  unfold Oper.wp
  simp [execOp, ho, resolve, invoke, builtin, hd, hsv, hrun, Result.andThen]
  exact hK _ _ (h w' r1 r2 r3)

theorem addr_add (b o j : Nat) : (⟨b, o, none⟩ : Addr).add j = ⟨b, o + j, none⟩ := by unfold Addr.add; split <;> simp_all

/-- An index into a slice, within its length. -/
theorem run_index_n {P : Program} (t e : TypeId) (size : Nat) (ht : P.underlying t = some (.slice e)) (hs : (P.info? e).map (·.size) = some size) (b o l cap c : Nat) (hc : c < l) (W : World) :
    (Instr.indexAt t (.slice (some ⟨b, o, none⟩) l cap) (.int .i64 (c : Int))).run P W = .ok (.pointer (some ⟨b, o + c * size, none⟩)) W := by
  have he : P.elem t = e := by simp [Program.elem, ht]
  rw [run_indexAt_slice W t ⟨b, o, none⟩ l cap .i64 c (by rw [he]; exact ht), if_pos ⟨by omega, by omega⟩, he]
  cases hq : P.info? e with
  | none => simp [hq] at hs
  | some i =>
    have hi : i.size = size := by simpa [hq] using hs
    simp [sizeOf, typeInfo, hq, hi, addr_add]

theorem row_carry {w w2 : World} {g e n : Nat} {f : Nat → Value} {o : Obj} (h : w.rowIs g e n f) (hb : Below w.heap.size (w.alloc o) w2) : w2.rowIs g e n f := (h.alloc o).of_block (hb.block _ h.lt)

theorem row_src {W : World} {g n e : Nat} {f : Nat → Value} (h : W.rowIs g e n f) : 0 < n → ∃ ad, some (⟨g, 0, none⟩ : Addr) = some ad ∧ ∀ j, j < n * 1 → W.cell? (ad.add j) = some (f j) := by
  intro _
  refine ⟨_, rfl, fun j hj => ?_⟩
  rw [addr_add, Nat.zero_add]
  exact h.cell (by omega)

end Go.Proofs.Ybulkdjzc
