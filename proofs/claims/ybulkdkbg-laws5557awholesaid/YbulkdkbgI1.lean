import Derived.Test.YbulkdkbgH1
namespace Go.Proofs.Ybulkdkbg
open Go.RowKit Go.Deep

/-- the members that came in, as plain data and where they lie -/
structure Dat where
  nm : Nat → ByteArray
  sn : Nat → Int
  nf : Nat → Bool
  fa : Nat → Option Addr
  fl : Nat → Nat
  fc : Nat → Nat
  fb : Nat → Nat
  fo : Nat → Nat
  fn : Nat → Nat → ByteArray
  fk : Nat → Nat → Bool

structure MsIn (w : World) (ao : Option Addr) (l c b o : Nat) (D : Dat) : Prop where
  bd : l ≤ 4398046511104
  ix : ∀ k, k < l → ∀ w : World, (Instr.indexAt 22 (.slice ao l c) (.int .i64 (k : Int))).run Yba.prog w = .ok (.pointer (some ⟨b, o + k * 4, none⟩)) w
  lt : 0 < l → b < w.heap.size
  c0 : ∀ k, k < l → w.cell? ⟨b, o + k * 4, none⟩ = some (.string (D.nm k))
  c1 : ∀ k, k < l → w.cell? ⟨b, o + k * 4 + 1, none⟩ = some (.int .i64 (D.sn k))
  c2 : ∀ k, k < l → w.cell? ⟨b, o + k * 4 + 2, none⟩ = some (.bool (D.nf k))
  c3 : ∀ k, k < l → w.cell? ⟨b, o + k * 4 + 3, none⟩ = some (.slice (D.fa k) (D.fl k) (D.fc k))
  sb : ∀ k, k < l → -9223372036854775808 ≤ D.sn k ∧ D.sn k ≤ 9223372036854775807
  fx : ∀ k, k < l → ∀ j, j < D.fl k → ∀ w : World, (Instr.indexAt 23 (.slice (D.fa k) (D.fl k) (D.fc k)) (.int .i64 (j : Int))).run Yba.prog w = .ok (.pointer (some ⟨D.fb k, D.fo k + j * 2, none⟩)) w
  ft : ∀ k, k < l → 0 < D.fl k → D.fb k < w.heap.size
  f0 : ∀ k, k < l → ∀ j, j < D.fl k → w.cell? ⟨D.fb k, D.fo k + j * 2, none⟩ = some (.string (D.fn k j))
  f1 : ∀ k, k < l → ∀ j, j < D.fl k → w.cell? ⟨D.fb k, D.fo k + j * 2 + 1, none⟩ = some (.bool (D.fk k j))
  fm : ∀ k, k < l → D.fl k ≤ 9223372036854775807

/-- is the file complete, after j of member i's reports -/
def cplTo (D : Dat) (name : ByteArray) (i : Nat) : Nat → Bool
  | 0 => false
  | j + 1 => if D.fn i j == name then D.fk i j else cplTo D name i j
def cpl (D : Dat) (name : ByteArray) (i : Nat) : Bool := if D.nf i then false else cplTo D name i (D.fl i)
/-- what the files' map answers after j reports -/
def gTo (D : Dat) (i : Nat) : Nat → ByteArray → Option Value
  | 0 => fun _ => none
  | j + 1 => fun k => if k = D.fn i j then some (frV (D.fk i j)) else gTo D i j k
theorem gTo_cpl (D : Dat) (name : ByteArray) (i : Nat) : ∀ j, (gTo D i j name).getD (frV false) = frV (cplTo D name i j)
  | 0 => rfl
  | j + 1 => by
    simp only [gTo, cplTo]
    by_cases h : name = D.fn i j
    · subst h; simp [ba_self]
    · have h2 : (D.fn i j == name) = false := ba_ne (fun e => h e.symm)
      rw [if_neg h, h2]
      exact gTo_cpl D name i j
def selP (D : Dat) (name : ByteArray) (now : Int) (i : Nat) : Bool := cpl D name i && aliveB now (D.sn i)

def intV (i : Nat) : Value := .int .i64 (i : Int)

/-- the great loop's invariant -/
structure Inv (D : Dat) (name : ByteArray) (now : Int) (w W : World) (l kk kp km kw : Nat) (mb : Nat → Nat) (am : Option Addr) (cm : Nat) (vw : Value) : Prop where
  bel : Below w.heap.size w W
  sz : w.heap.size + 5 ≤ W.heap.size
  bas : W.heap[w.heap.size]? = some (.cells #[.int .u64 0, .int .i64 0, .pointer none] 29 (0, 0))
  byn : ∃ G, MapIs W (w.heap.size + 1) G
  crd : ∃ cs, W.heap[w.heap.size + 2]? = some (.cells cs 43 (0, 0)) ∧ cs[2]? = some (.slice am km cm) ∧ cs[3]? = some (.map (some (w.heap.size + 1)))
  ptr : ∃ f, W.rowIs (w.heap.size + 3) 45 l f ∧ ∀ j, j < kp → f j = ptrOf mb j
  own : W.ownsRow (w.heap.size + 5) 45 1 (.slice am km cm) km ((List.range km).map (ptrOf mb))
  wnt : W.ownsRow (w.heap.size + 4) 3 1 vw (selTo (selP D name now) kw).length ((selTo (selP D name now) kw).map intV)
  mem : ∀ j, j < kk → MemOK (w.heap.size + 5) name W (mb j) (D.sn j) (cpl D name j)

section
variable {D : Dat} {name : ByteArray} {now : Int} {w W W' : World} {l kk kp km kw : Nat} {mb : Nat → Nat} {am : Option Addr} {cm : Nat} {vw : Value}

theorem grown_of_below (hb : Below W.heap.size W W') (row : Option Nat) : W.grownBy W' row := ⟨hb.os, hb.tape, hb.output, hb.size, fun k hk _ => hb.block k hk⟩

theorem Inv.below (h : Inv D name now w W l kk kp km kw mb am cm vw) (hb : Below W.heap.size W W') : Inv D name now w W' l kk kp km kw mb am cm vw := by
  have hs := h.sz
  refine ⟨h.bel.trans (hb.mono h.bel.size), Nat.le_trans h.sz hb.size, (hb.block _ (by omega)).trans h.bas, ?_, ?_, ?_, own_below h.own hb, own_below h.wnt hb, fun j hj => (h.mem j hj).grown (grown_of_below hb none) (fun x hx => by simp at hx)⟩
  · obtain ⟨G, hG⟩ := h.byn; exact ⟨G, hG.of_block (hb.block _ (by omega))⟩
  · obtain ⟨cs, h1, h2⟩ := h.crd; exact ⟨cs, (hb.block _ (by omega)).trans h1, h2⟩
  · obtain ⟨f, h1, h2⟩ := h.ptr; exact ⟨f, h1.of_block (hb.block _ (by omega)), h2⟩

theorem ptrOf_upd {mb : Nat → Nat} {k b j : Nat} (h : j < k) : ptrOf (fun i => if i = k then b else mb i) j = ptrOf mb j := by simp [ptrOf, Nat.ne_of_lt h]

theorem Inv.addMem {k b : Nat} (h : Inv D name now w W l k k k k mb am cm vw) (hm : MemOK (w.heap.size + 5) name W b (D.sn k) (cpl D name k)) : Inv D name now w W l (k + 1) k k k (fun i => if i = k then b else mb i) am cm vw := by
  refine ⟨h.bel, h.sz, h.bas, h.byn, h.crd, ?_, ?_, h.wnt, fun j hj => ?_⟩
  · obtain ⟨f, h1, h2⟩ := h.ptr
    exact ⟨f, h1, fun j hj => by rw [ptrOf_upd hj]; exact h2 j hj⟩
  · have e : (List.range k).map (ptrOf (fun i => if i = k then b else mb i)) = (List.range k).map (ptrOf mb) := List.map_congr_left (fun j hj => ptrOf_upd (List.mem_range.1 hj))
    rw [e]; exact h.own
  · by_cases hjk : j = k
    · subst hjk; simpa using hm
    · simp only [if_neg hjk]; exact h.mem j (by omega)

/-- one block turns: what must be known of it -/
theorem Inv.storePtr (h : Inv D name now w W l kk kp km kw mb am cm vw) : Inv D name now w (W.setCell ⟨w.heap.size + 3, kp, none⟩ (ptrOf mb kp)) l kk (kp + 1) km kw mb am cm vw := by
  have hs := h.sz
  have hg : W.grownBy (W.setCell ⟨w.heap.size + 3, kp, none⟩ (ptrOf mb kp)) (some (w.heap.size + 3)) :=
    ⟨rfl, rfl, rfl, by simp [World.setCell], fun x _ hx => Below.heap_setCell _ _ _ _ (fun e => hx (by rw [e]))⟩
  have hb : ∀ x, x ≠ w.heap.size + 3 → (W.setCell ⟨w.heap.size + 3, kp, none⟩ (ptrOf mb kp)).heap[x]? = W.heap[x]? := fun x hx => Below.heap_setCell _ _ _ _ hx
  refine ⟨h.bel.setCell (by show w.heap.size ≤ w.heap.size + 3; omega) _, by simpa [World.setCell] using h.sz, (hb _ (by omega)).trans h.bas, ?_, ?_, ?_, h.own.kept hg ?_, h.wnt.kept hg ?_, fun j hj => (h.mem j hj).grown hg (fun x hx => .inl (by simp at hx; omega))⟩
  · obtain ⟨G, hG⟩ := h.byn; exact ⟨G, hG.of_block (hb _ (by omega))⟩
  · obtain ⟨cs, h1, h2⟩ := h.crd; exact ⟨cs, (hb _ (by omega)).trans h1, h2⟩
  · obtain ⟨f, h1, h2⟩ := h.ptr
    refine ⟨_, h1.set kp _, fun j hj => ?_⟩
    by_cases e : j = kp
    · subst e; rw [if_pos rfl]
    · rw [if_neg e]; exact h2 j (by omega)
  · right; intro e; have := (h.own.lt _ e).1; omega
  · right; intro e; have := (h.wnt.lt _ e).1; omega

theorem own_blk {base e size n x : Nat} {v : Value} {xs : List Value} {W : World} (h : W.ownsRow base e size v n xs) (hx : v.ownBlock = some x) : ∃ cur, W.heap[x]? = some (.cells cur e (0, 0)) := by
  rcases h.2 with ⟨rfl, _⟩ | ⟨g, cap, cur, rfl, _, hg, _⟩
  · simp [Value.ownBlock] at hx
  · simp [Value.ownBlock] at hx; subst hx; exact ⟨cur, hg⟩
theorem own_shape {base e size n : Nat} {v : Value} {xs : List Value} {W : World} (h : W.ownsRow base e size v n xs) : ∃ am cm, v = .slice am n cm := by
  rcases h.2 with ⟨rfl, rfl⟩ | ⟨g, cap, cur, rfl, _⟩
  · exact ⟨none, 0, rfl⟩
  · exact ⟨_, _, rfl⟩

/-- coord.members = append(coord.members, m) -/
theorem Inv.appendM {W2 : World} {am' : Option Addr} {cm' : Nat} {o : Obj} (h : Inv D name now w W l kk kp km kw mb am cm vw) (hgrow : (W.alloc o).grownBy W2 (Value.slice am km cm).ownBlock)
    (hown' : W2.ownsRow (w.heap.size + 5) 45 1 (.slice am' (km + 1) cm') (km + 1) ((List.range km).map (ptrOf mb) ++ [ptrOf mb km])) :
    Inv D name now w (W2.setCell ⟨w.heap.size + 2, 2, none⟩ (.slice am' (km + 1) cm')) l kk kp (km + 1) kw mb am' cm' vw := by
  have h1 := h.below ((Below.refl W.heap.size W).alloc (Nat.le_refl _) o)
  have hs := h1.sz
  have ne5 : ∀ x, x < w.heap.size + 5 → some x ≠ (Value.slice am km cm).ownBlock := fun x hx e => by have := (h1.own.lt x e.symm).1; omega
  have b5 : ∀ x, x < w.heap.size + 5 → W2.heap[x]? = (W.alloc o).heap[x]? := fun x hx => hgrow.block x (by omega) (ne5 x hx)
  have b5' : ∀ x, x < w.heap.size + 5 → x ≠ w.heap.size + 2 → (W2.setCell ⟨w.heap.size + 2, 2, none⟩ (.slice am' (km + 1) cm')).heap[x]? = (W.alloc o).heap[x]? := fun x hx hne => (Below.heap_setCell _ _ _ _ hne).trans (b5 x hx)
  have hsz2 : w.heap.size + 5 ≤ W2.heap.size := Nat.le_trans hs hgrow.size
  have hgs : W2.grownBy (W2.setCell ⟨w.heap.size + 2, 2, none⟩ (.slice am' (km + 1) cm')) (some (w.heap.size + 2)) :=
    ⟨rfl, rfl, rfl, by simp [World.setCell], fun x _ hx => Below.heap_setCell _ _ _ _ (fun e => hx (by rw [e]))⟩
  have hwn : vw.ownBlock = none ∨ vw.ownBlock ≠ (Value.slice am km cm).ownBlock := by
    cases hv : vw.ownBlock with
    | none => exact .inl rfl
    | some y =>
      right
      intro e
      obtain ⟨c1, q1⟩ := own_blk h1.wnt hv
      obtain ⟨c2, q2⟩ := own_blk h1.own e.symm
      rw [q1] at q2; simp at q2
  refine ⟨(h1.bel.grown hgrow (by omega) (fun x hx => by have := (h1.own.lt x hx).1; omega)).setCell (by show w.heap.size ≤ w.heap.size + 2; omega) _, by simpa [World.setCell] using hsz2, (b5' _ (by omega) (by omega)).trans h1.bas, ?_, ?_, ?_, ?_, ?_, fun j hj => ?_⟩
  · obtain ⟨G, hG⟩ := h1.byn; exact ⟨G, hG.of_block (b5' _ (by omega) (by omega))⟩
  · obtain ⟨cs, q1, q2, q3⟩ := h1.crd
    have e2 : W2.heap[w.heap.size + 2]? = some (.cells cs 43 (0, 0)) := (b5 _ (by omega)).trans q1
    refine ⟨cs.setIfInBounds 2 (.slice am' (km + 1) cm'), by simp [World.setCell, Array.getElem?_modify, e2], ?_, ?_⟩
    · have : 2 < cs.size := (Array.getElem?_eq_some_iff.1 q2).1
      simp [this]
    · simpa using q3
  · obtain ⟨f, q1, q2⟩ := h1.ptr; exact ⟨f, q1.of_block (b5' _ (by omega) (by omega)), q2⟩
  · rw [List.range_succ, List.map_append]
    exact hown'.kept hgs (by right; intro e; have := (hown'.lt _ e).1; omega)
  · exact (h1.wnt.kept hgrow hwn).kept hgs (by right; intro e; have := (h1.wnt.lt _ e).1; omega)
  · refine ((h1.mem j hj).grown hgrow (fun x hx => ?_)).grown hgs (fun x hx => .inl (by simp at hx; omega))
    obtain ⟨c2, q2⟩ := own_blk h1.own hx
    exact .inr ⟨c2, 45, q2, by decide⟩

/-- want = append(want, i) -/
theorem Inv.appendW {W2 : World} {vw' : Value} {o : Obj} (h : Inv D name now w W l kk kp km kw mb am cm vw) (hgrow : (W.alloc o).grownBy W2 vw.ownBlock)
    (hown' : W2.ownsRow (w.heap.size + 4) 3 1 vw' ((selTo (selP D name now) kw).length + 1) ((selTo (selP D name now) kw).map intV ++ [intV kw])) (hsel : selP D name now kw = true) :
    Inv D name now w W2 l kk kp km (kw + 1) mb am cm vw' := by
  have h1 := h.below ((Below.refl W.heap.size W).alloc (Nat.le_refl _) o)
  have hs := h1.sz
  have b4 : ∀ x, x < w.heap.size + 4 → W2.heap[x]? = (W.alloc o).heap[x]? := fun x hx => hgrow.block x (by omega) (fun e => by have := (h1.wnt.lt x e.symm).1; omega)
  have hon : (Value.slice am km cm).ownBlock = none ∨ (Value.slice am km cm).ownBlock ≠ vw.ownBlock := by
    cases hv : (Value.slice am km cm).ownBlock with
    | none => exact .inl rfl
    | some y =>
      right
      intro e
      obtain ⟨c1, q1⟩ := own_blk h1.own hv
      obtain ⟨c2, q2⟩ := own_blk h1.wnt e.symm
      rw [q1] at q2; simp at q2
  refine ⟨h1.bel.grown hgrow (by omega) (fun x hx => by have := (h1.wnt.lt x hx).1; omega), Nat.le_trans hs hgrow.size, (b4 _ (by omega)).trans h1.bas, ?_, ?_, ?_, h1.own.kept hgrow hon, ?_, fun j hj => ?_⟩
  · obtain ⟨G, hG⟩ := h1.byn; exact ⟨G, hG.of_block (b4 _ (by omega))⟩
  · obtain ⟨cs, q1, q2⟩ := h1.crd; exact ⟨cs, (b4 _ (by omega)).trans q1, q2⟩
  · obtain ⟨f, q1, q2⟩ := h1.ptr; exact ⟨f, q1.of_block (b4 _ (by omega)), q2⟩
  · rw [selTo_succ, hsel, if_pos rfl, List.length_append, List.map_append]; exact hown'
  · refine (h1.mem j hj).grown hgrow (fun x hx => ?_)
    obtain ⟨c2, q2⟩ := own_blk h1.wnt hx
    exact .inr ⟨c2, 3, q2, by decide⟩
theorem Inv.skipW (h : Inv D name now w W l kk kp km kw mb am cm vw) (hsel : selP D name now kw = false) : Inv D name now w W l kk kp km (kw + 1) mb am cm vw :=
  ⟨h.bel, h.sz, h.bas, h.byn, h.crd, h.ptr, h.own, by rw [selTo_succ, hsel, if_neg (by decide), List.append_nil]; exact h.wnt, h.mem⟩

/-- coord.byName[k] = m -/
theorem Inv.putName (h : Inv D name now w W l kk kp km kw mb am cm vw) (k : ByteArray) (v : Value) : Inv D name now w (mapPut W (w.heap.size + 1) k v) l kk kp km kw mb am cm vw := by
  have hs := h.sz
  have ho := mapPut_only (w := W) (r := w.heap.size + 1) k v
  have hg : W.grownBy (mapPut W (w.heap.size + 1) k v) (some (w.heap.size + 1)) := ⟨ho.os, ho.tape, ho.output, by rw [ho.size]; exact Nat.le_refl _, fun x _ hx => ho.block x (fun e => hx (by rw [e]))⟩
  refine ⟨h.bel.trans (ho.below (by omega)), by rw [ho.size]; exact hs, (ho.block _ (by omega)).trans h.bas, ?_, ?_, ?_, h.own.kept hg ?_, h.wnt.kept hg ?_, fun j hj => (h.mem j hj).grown hg (fun x hx => .inl (by simp at hx; omega))⟩
  · obtain ⟨G, hG⟩ := h.byn; exact ⟨_, mapPut_is hG k v⟩
  · obtain ⟨cs, q1, q2⟩ := h.crd; exact ⟨cs, (ho.block _ (by omega)).trans q1, q2⟩
  · obtain ⟨f, q1, q2⟩ := h.ptr; exact ⟨f, q1.of_block (ho.block _ (by omega)), q2⟩
  · right; intro e; have := (h.own.lt _ e).1; omega
  · right; intro e; have := (h.wnt.lt _ e).1; omega

end
end Go.Proofs.Ybulkdkbg
