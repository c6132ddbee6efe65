import Derived.Test.YbulkdkbgI1
import Derived.StillTailTactics
import Derived.LaidEqlPtr
namespace Go.Proofs.Ybulkdkbg
open Go.RowKit Go.Deep

theorem MsIn.below {w W : World} {ao : Option Addr} {l c b o : Nat} {D : Dat} (h : MsIn w ao l c b o D) (hb : Below w.heap.size w W) : MsIn W ao l c b o D := by
  have hc : ∀ i, 0 < l → W.cell? ⟨b, i, none⟩ = w.cell? ⟨b, i, none⟩ := fun i h0 => hb.cell (by exact h.lt h0)
  have hf : ∀ k, k < l → 0 < D.fl k → ∀ i, W.cell? ⟨D.fb k, i, none⟩ = w.cell? ⟨D.fb k, i, none⟩ := fun k hk h0 i => hb.cell (by exact h.ft k hk h0)
  exact ⟨h.bd, h.ix, fun h0 => Nat.lt_of_lt_of_le (h.lt h0) hb.size, fun k hk => (hc _ (by omega)).trans (h.c0 k hk), fun k hk => (hc _ (by omega)).trans (h.c1 k hk), fun k hk => (hc _ (by omega)).trans (h.c2 k hk), fun k hk => (hc _ (by omega)).trans (h.c3 k hk), h.sb, h.fx,
    fun k hk h0 => Nat.lt_of_lt_of_le (h.ft k hk h0) hb.size, fun k hk j hj => (hf k hk (by omega) _).trans (h.f0 k hk j hj), fun k hk j hj => (hf k hk (by omega) _).trans (h.f1 k hk j hj), h.fm⟩

def W0 (w : World) (l : Nat) : World := ((((w.alloc (.cells #[.int .u64 0, .int .i64 0, .pointer none] 29)).alloc (.map #[] 0)).alloc (.cells #[.int .i32 0, .int .u32 0, .slice none 0 0, .map (some (w.heap.size + 1)), .slice none 0 0, .nilFunc, .int .u64 0, .int .i64 0, .pointer none] 43)).alloc (.cells (madeCells #[.pointer none] l) 45)).alloc (.cells #[] 3)
theorem blk_at (w : World) (o : Obj) (k : Nat) (h : k = w.heap.size) : (w.alloc o).heap[k]? = some o := by subst h; exact blk_alloc_new _ _
theorem MapIs.new_at (w : World) (g : Nat) (h : g = w.heap.size) : MapIs (w.alloc (.map #[] 0)) g (fun _ => none) := by subst h; exact MapIs.new w
theorem Inv.start (D : Dat) (name : ByteArray) (now : Int) (w : World) (l : Nat) : Inv D name now w (W0 w l) l 0 0 0 0 (fun _ => 0) none 0 (.slice (some ⟨w.heap.size + 4, 0, none⟩) 0 0) := by
  unfold W0
  refine ⟨?_, ?_, ?_, ?_, ?_, ?_, ?_, ?_, ?_⟩
  · exact ((((((Below.refl w.heap.size w).alloc (Nat.le_refl _) _).alloc (by simp) _).alloc (by simp; omega) _).alloc (by simp; omega) _).alloc (by simp; omega) _)
  · simp
  · exact ((((blk_alloc_lt _ _ _ (by simp; omega)).trans (blk_alloc_lt _ _ _ (by simp; omega))).trans (blk_alloc_lt _ _ _ (by simp; omega))).trans (blk_alloc_lt _ _ _ (by simp))).trans (blk_alloc_new w _)
  · exact ⟨_, (MapIs.new_at (w.alloc (.cells #[.int .u64 0, .int .i64 0, .pointer none] 29)) (w.heap.size + 1) (by simp)).of_block (((blk_alloc_lt _ _ _ (by simp)).trans (blk_alloc_lt _ _ _ (by simp))).trans (blk_alloc_lt _ _ _ (by simp)))⟩
  · refine ⟨#[.int .i32 0, .int .u32 0, .slice none 0 0, .map (some (w.heap.size + 1)), .slice none 0 0, .nilFunc, .int .u64 0, .int .i64 0, .pointer none], ?_, rfl, rfl⟩
    exact ((blk_alloc_lt _ _ _ (by simp)).trans (blk_alloc_lt _ _ _ (by simp))).trans (blk_at _ _ _ (by simp))
  · exact ⟨_, (made_row_at _ #[.pointer none] l (w.heap.size + 3) 45 (by simp)).alloc _, fun j hj => by omega⟩
  · exact World.ownsRow_nil _ _ _ _
  · have h := World.ownsRow_lit (base := w.heap.size + 4) (e := 3) (size := 1) ((((w.alloc (.cells #[.int .u64 0, .int .i64 0, .pointer none] 29)).alloc (.map #[] 0)).alloc (.cells #[.int .i32 0, .int .u32 0, .slice none 0 0, .map (some (w.heap.size + 1)), .slice none 0 0, .nilFunc, .int .u64 0, .int .i64 0, .pointer none] 43)).alloc (.cells (madeCells #[.pointer none] l) 45)) #[] 0 (by simp) (by unfold maxLen; omega) (by simp)
    simpa [selTo] using h
  · intro j hj; omega

def memC (nm : ByteArray) (s : Int) (fm : Option Nat) : Array Value := #[.string nm, .string ⟨#[]⟩, .int .i64 0, .bool false, .int .i64 0, .int .u64 (s % 1000000000), .int .i64 (s / 1000000000), .pointer none, .map fm]
theorem close_nil {D : Dat} {name : ByteArray} {now : Int} {w w1 : World} {l k : Nat} {mb : Nat → Nat} {am : Option Addr} {cm : Nat} {vw : Value} (h : Inv D name now w w1 l k k k k mb am cm vw) (hnf : D.nf k = true) :
    ∃ mb', Inv D name now w (w1.alloc (.cells (memC (D.nm k) (D.sn k) none) 52)) l (k + 1) k k k mb' am cm vw ∧ mb' k = w1.heap.size := by
  have h' := h.below ((Below.refl w1.heap.size w1).alloc (Nat.le_refl _) (.cells (memC (D.nm k) (D.sn k) none) 52))
  refine ⟨_, h'.addMem (b := w1.heap.size) ⟨h.sz, memC (D.nm k) (D.sn k) none, none, blk_alloc_new _ _, rfl, rfl, rfl, rfl, .inl ⟨rfl, by simp [cpl, hnf]⟩⟩, by simp⟩

structure InMap (D : Dat) (k : Nat) (w1 wi : World) (j : Nat) : Prop where
  bel : Below w1.heap.size w1 wi
  blk : wi.heap[w1.heap.size]? = some (.cells (memC (D.nm k) (D.sn k) (some (w1.heap.size + 1))) 52 (0, 0))
  map : MapIs wi (w1.heap.size + 1) (gTo D k j)
theorem close_map {D : Dat} {name : ByteArray} {now : Int} {w w1 W : World} {l k : Nat} {mb : Nat → Nat} {am : Option Addr} {cm : Nat} {vw : Value} (h : Inv D name now w w1 l k k k k mb am cm vw) (hnf : D.nf k = false) (hm : InMap D k w1 W (D.fl k)) :
    ∃ mb', Inv D name now w W l (k + 1) k k k mb' am cm vw ∧ mb' k = w1.heap.size := by
  have h' := h.below hm.bel
  have hc : cpl D name k = cplTo D name k (D.fl k) := by simp [cpl, hnf]
  refine ⟨_, h'.addMem (b := w1.heap.size) ⟨h.sz, _, _, hm.blk, rfl, rfl, rfl, rfl, .inr ⟨_, _, rfl, Nat.le_succ_of_le h.sz, hm.map, by rw [hc]; exact gTo_cpl D name k (D.fl k)⟩⟩, by simp⟩
theorem InMap.start (D : Dat) (k : Nat) (w1 : World) : InMap D k w1 ((w1.alloc (.cells (memC (D.nm k) (D.sn k) (some (w1.heap.size + 1))) 52)).alloc (.map #[] 0)) 0 :=
  ⟨((Below.refl w1.heap.size w1).alloc (Nat.le_refl _) _).alloc (by simp) _, (blk_alloc_lt _ _ _ (by simp)).trans (blk_alloc_new _ _), MapIs.new_at _ _ (by simp)⟩
theorem InMap.step {D : Dat} {k j : Nat} {w1 wi : World} (h : InMap D k w1 wi j) : InMap D k w1 (mapPut (wi.alloc (.cells (frC (D.fk k j)) 61)).drew (w1.heap.size + 1) (D.fn k j) (frV (D.fk k j))) (j + 1) := by
  have hs := h.map.lt
  have ho := mapPut_only (w := (wi.alloc (.cells (frC (D.fk k j)) 61)).drew) (r := w1.heap.size + 1) (D.fn k j) (frV (D.fk k j))
  refine ⟨(h.bel.alloc (by omega) _).drew.trans (ho.below (by omega)), (ho.block _ (by omega)).trans ((blk_alloc_lt _ _ _ (by omega)).trans h.blk), ?_⟩
  exact mapPut_is (h.map.of_block (W := (wi.alloc (.cells (frC (D.fk k j)) 61)).drew) (blk_alloc_lt _ _ _ hs)) _ _
theorem InMap.upd {D : Dat} {k j : Nat} {w1 wi : World} (h : InMap D k w1 wi j) : (Instr.mapUpdate 50 (.map (some (w1.heap.size + 1))) (.string (D.fn k j)) (frV (D.fk k j))).run Yba.prog (wi.alloc (.cells (frC (D.fk k j)) 61)).drew = .ok () (mapPut (wi.alloc (.cells (frC (D.fk k j)) 61)).drew (w1.heap.size + 1) (D.fn k j) (frV (D.fk k j))) :=
  run_update_map (P := Yba.prog) Yba.underlying50 Yba.underlying9 (h.map.of_block (W := (wi.alloc (.cells (frC (D.fk k j)) 61)).drew) (blk_alloc_lt _ _ _ h.map.lt)) _ _


section
variable {D : Dat} {name : ByteArray} {now : Int} {w W W2 : World} {l kk kp km kw : Nat} {mb : Nat → Nat} {am : Option Addr} {cm : Nat} {vw : Value}
theorem Inv.ptrCell (h : Inv D name now w W l kk kp km kw mb am cm vw) {j : Nat} (hj : j < l) : ∃ u, W.cell? ⟨w.heap.size + 3, j, none⟩ = some u ∧ W.frozen? ⟨w.heap.size + 3, j, none⟩ = false := by
  obtain ⟨f, h1, _⟩ := h.ptr
  refine ⟨f j, by simpa using h1.cell hj, h1.frozen j⟩
theorem Inv.crdCell (h : Inv D name now w W l kk kp km kw mb am cm vw) : W.cell? ⟨w.heap.size + 2, 2, none⟩ = some (.slice am km cm) ∧ W.cell? ⟨w.heap.size + 2, 3, none⟩ = some (.map (some (w.heap.size + 1))) ∧ W.frozen? ⟨w.heap.size + 2, 2, none⟩ = false := by
  obtain ⟨cs, h1, h2, h3⟩ := h.crd
  exact ⟨by simp [World.cell?, h1, h2], by simp [World.cell?, h1, h3], by simp [World.frozen?, h1]⟩
theorem Inv.crdLater {o : Obj} (h : Inv D name now w W l kk kp km kw mb am cm vw) (hgrow : (W.alloc o).grownBy W2 (Value.slice am km cm).ownBlock) : W2.cell? ⟨w.heap.size + 2, 2, none⟩ = some (.slice am km cm) ∧ W2.frozen? ⟨w.heap.size + 2, 2, none⟩ = false := by
  have h1 := h.below ((Below.refl W.heap.size W).alloc (Nat.le_refl _) o)
  have hs := h1.sz
  have e : W2.heap[w.heap.size + 2]? = (W.alloc o).heap[w.heap.size + 2]? := hgrow.block _ (by omega) (fun e => by have := (h1.own.lt _ e.symm).1; omega)
  obtain ⟨cs, q1, q2, q3⟩ := h1.crd
  rw [q1] at e
  exact ⟨by simp [World.cell?, e, q2], by simp [World.frozen?, e]⟩
theorem Inv.drew (h : Inv D name now w W l kk kp km kw mb am cm vw) : Inv D name now w W.drew l kk kp km kw mb am cm vw := h.below (Below.refl _ W).drew
end


theorem loadv61 {W : World} {b : Nat} {f : Bool} (h : W.heap[b]? = some (.cells (frC f) 61 (0, 0))) : (loadVar 61 ⟨b, 0, none⟩).run Yba.prog W = .ok (frV f) W :=
  run_loadVar_row W b 61 61 (frC f) (0, 0) _ h Yba.underlying61 rfl (by kernel_rfl)
theorem load61 {W : World} {b : Nat} {f : Bool} (h : W.heap[b]? = some (.cells (frC f) 61 (0, 0))) : (Instr.loadAt 61 (.pointer (some ⟨b, 0, none⟩))).run Yba.prog W = .ok (frV f) W := by
  have := loadv61 h
  simp [Instr.loadAt, Instr.sureAddr, this]
theorem still_load {P : Program} {o : Oper} {a : Act} {w : World} {K : Act → Prop} {ty : TypeId} {x : Operand} {p v : Value} (ho : o.op = .load ty x) (hx : a.eval x = p) (hrun : (Instr.loadAt ty p).run P w = .ok v w) (h : K (a.put o.dst v)) : o.still P a w K := by
  unfold Oper.still execOp
  simp only [ho, hx, Sem.run_bind, hrun, Result.andThen_ok, Sem.run_pure, Oper.stillUpon_value]
  exact h



theorem own_reads {W : World} {base e n cm : Nat} {am : Option Addr} {xs : List Value} (t : TypeId) (ht : Yba.prog.underlying t = some (.slice e)) (hs : (Yba.prog.info? e).map (·.size) = some 1) (h : W.ownsRow base e 1 (.slice am n cm) n xs) :
    ∃ g, (0 < n → g < W.heap.size) ∧ (∀ j, j < n → ∀ w : World, (Instr.indexAt t (.slice am n cm) (.int .i64 (j : Int))).run Yba.prog w = .ok (.pointer (some ⟨g, j, none⟩)) w) ∧ ∀ j v, xs[j]? = some v → W.cell? ⟨g, j, none⟩ = some v := by
  obtain ⟨hl, h⟩ := h
  rcases h with ⟨hv, hn⟩ | ⟨g, cap, cur, hv, hb, hg, hnc, hcm, hsz, htk⟩
  · subst hn
    refine ⟨0, fun h => by omega, fun j hj => by omega, fun j v hj => ?_⟩
    have : xs = [] := List.eq_nil_of_length_eq_zero (by omega)
    subst this
    simp at hj
  · simp only [Value.slice.injEq] at hv
    obtain ⟨rfl, _, rfl⟩ := hv
    refine ⟨g, fun _ => (Array.getElem?_eq_some_iff.1 hg).1, fun j hj w => ?_, fun j v hj => ?_⟩
    · have := run_index_n (P := Yba.prog) t e 1 ht hs g 0 n cm j hj w
      simpa using this
    · rw [← htk, List.getElem?_take] at hj
      split at hj
      · simp only [World.cell?, hg]
        simpa using hj
      · simp at hj

theorem size45 : (Yba.prog.info? 45).map (·.size) = some 1 := by kernel_rfl
theorem size3 : (Yba.prog.info? 3).map (·.size) = some 1 := by kernel_rfl

theorem hold_inv {D : Dat} {name : ByteArray} {now : Int} {w W : World} {l N cm : Nat} {mb : Nat → Nat} {am : Option Addr} {vw : Value} {n s : Int} (h : Inv D name now w W l l l l l mb am cm vw) (hbd : l ≤ 4398046511104)
    (hsn : ∀ j, j < l → -9223372036854775808 ≤ D.sn j ∧ D.sn j ≤ 9223372036854775807) (h0 : 0 ≤ n) (h1 : n < 1000000000) (hnow : s * 1000000000 + n = now) (hn0 : -9223372036854775808 ≤ now) (hn1 : now ≤ 9223372036854775807) (hN : (selTo (selP D name now) l).length = N) :
    Calls Yba.prog 6 #[.pointer (some ⟨w.heap.size + 1 + 1, 0, none⟩), .string name, .agg #[.int .u64 n, .int .i64 s, .pointer none]] W fun e w' =>
      ∃ ar cr, e = .returned (.slice ar N cr) ∧ Below W.heap.size W w' ∧ w'.ownsRow W.heap.size 45 1 (.slice ar N cr) N ((selTo (selP D name now) l).map (ptrOf mb)) ∧ (N = 0 → ar = none) := by
  obtain ⟨g, hg, hix, hcl⟩ := own_reads 39 Yba.underlying39 size45 h.own
  have hs := h.sz
  subst hnow
  subst hN
  refine (hold_any (w.heap.size + 5) (w.heap.size + 1 + 1) g l cm am name n s mb D.sn (cpl D name) W hbd (by omega) hg h.crdCell.1 hix (fun j hj => hcl j _ (by simp [hj])) (fun j hj => h.mem j hj) hsn h0 h1 hn0 hn1).mono ?_
  rintro e w' ⟨v, rfl, hb, hown, hnil⟩
  obtain ⟨ar, cr, rfl⟩ := own_shape hown
  refine ⟨ar, cr, rfl, hb, hown, fun h0 => ?_⟩
  have := hnil (List.eq_nil_of_length_eq_zero h0)
  simp only [Value.slice.injEq] at this
  exact this.1

structure Fin5 (w wi : World) (k N : Nat) (x mb : Nat → Nat) (am : Option Addr) (cm gm gr gw : Nat) : Prop where
  bel : Below w.heap.size w wi
  crd : wi.cell? ⟨w.heap.size + 1 + 1, 2, none⟩ = some (.slice am k cm)
  mc : ∀ j, j < k → wi.cell? ⟨gm, j, none⟩ = some (.pointer (some ⟨mb j, 0, none⟩))
  pc : ∀ j, j < k → wi.cell? ⟨w.heap.size + 1 + 1 + 1, j, none⟩ = some (.pointer (some ⟨mb j, 0, none⟩))
  rc : ∀ q, q < N → wi.cell? ⟨gr, q, none⟩ = some (.pointer (some ⟨mb (x q), 0, none⟩))
  wc : ∀ q, q < N → wi.cell? ⟨gw, q, none⟩ = some (.int .i64 (x q : Int))
theorem Fin5.drewN {w wi : World} {k N : Nat} {x mb : Nat → Nat} {am : Option Addr} {cm gm gr gw : Nat} (h : Fin5 w wi k N x mb am cm gm gr gw) (n : Nat) : Fin5 w (wi.drewN n) k N x mb am cm gm gr gw :=
  ⟨⟨h.bel.os, h.bel.tape, h.bel.output, h.bel.size, h.bel.block⟩, h.crd, h.mc, h.pc, h.rc, h.wc⟩

theorem Fin5.make {D : Dat} {name : ByteArray} {now : Int} {w W wB : World} {l N cm cw cr : Nat} {mb : Nat → Nat} {am aw ar : Option Addr} (h : Inv D name now w W l l l l l mb am cm (.slice aw N cw)) (hb : Below W.heap.size W wB)
    (hres : wB.ownsRow W.heap.size 45 1 (.slice ar N cr) N ((selTo (selP D name now) l).map (ptrOf mb))) (hN : (selTo (selP D name now) l).length = N) :
    ∃ x gm gr gw, Fin5 w wB l N x mb am cm gm gr gw ∧ (∀ j, j < l → ∀ w : World, (Instr.indexAt 39 (.slice am l cm) (.int .i64 (j : Int))).run Yba.prog w = .ok (.pointer (some ⟨gm, j, none⟩)) w) ∧
      (∀ j, j < N → ∀ w : World, (Instr.indexAt 39 (.slice ar N cr) (.int .i64 (j : Int))).run Yba.prog w = .ok (.pointer (some ⟨gr, j, none⟩)) w) ∧
      (∀ j, j < N → ∀ w : World, (Instr.indexAt 44 (.slice aw N cw) (.int .i64 (j : Int))).run Yba.prog w = .ok (.pointer (some ⟨gw, j, none⟩)) w) ∧ ∀ q, q < N → x q < l := by
  have h' := h.below hb
  have hw := h'.wnt
  rw [hN] at hw
  obtain ⟨gm, _, im, cM⟩ := own_reads 39 Yba.underlying39 size45 h'.own
  obtain ⟨gr, _, ir, cR⟩ := own_reads 39 Yba.underlying39 size45 hres
  obtain ⟨gw, _, iw, cW⟩ := own_reads 44 Yba.underlying44 size3 hw
  have hx : ∀ q, q < N → (selTo (selP D name now) l)[q]? = some ((selTo (selP D name now) l).getD q 0) := fun q hq => by
    rw [List.getD_eq_getElem?_getD, List.getElem?_eq_getElem (by omega)]; rfl
  refine ⟨fun q => (selTo (selP D name now) l).getD q 0, gm, gr, gw, ⟨h'.bel, h'.crdCell.1, fun j hj => cM j _ (by simp [hj, ptrOf]), fun j hj => ?_, fun q hq => cR q _ (by rw [List.getElem?_map, hx q hq]; rfl), fun q hq => cW q _ (by rw [List.getElem?_map, hx q hq]; rfl)⟩, im, ir, iw, fun q hq => selTo_lt (List.mem_of_getElem? (hx q hq))⟩
  obtain ⟨f, h1, h2⟩ := h'.ptr
  have := h1.cell hj
  rw [h2 j hj] at this
  exact this

theorem run_neq_ptr (w : World) (a : Addr) : (binOp .neq 45 (.pointer (some a)) (.pointer (some a))).run Yba.prog w = .ok (.bool false) w := by
  obtain ⟨j, hj⟩ : ∃ j, Yba.prog.info? 52 = some j := Option.isSome_iff_exists.1 (by kernel_rfl)
  have h : ∀ d : Nat, (Op.equalIn (d + 1) 45 (.pointer (some a)) (.pointer (some a))).run Yba.prog w = .ok true w := fun d => by
    simp [Op.equalIn, run_underlying Yba.underlying45, sizeOf, typeInfo, hj, run_sameAddr_same]
  simp only [binOp]
  simp [Op.equal, Op.maxDepth, h 9999]

end Go.Proofs.Ybulkdkbg
