import Derived.Test.YbulkdkbgM1
namespace Go.Proofs.Ybulkdkbg
open Go.RowKit Go.Deep

/-- a FileReport, all zero but for Complete -/
def frC (b : Bool) : Array Value := #[.string ⟨#[]⟩, .int .i64 0, .int .i64 0, .int .i64 0, .string ⟨#[]⟩, .string ⟨#[]⟩, .int .u64 0, .int .i64 0, .pointer none, .string ⟨#[]⟩, .int .i64 0, .int .i64 0, .int .i64 0, .int .i64 0, .bool b, .bool false, .bool false, .bool false, .string ⟨#[]⟩, .slice none 0 0]
def frV (b : Bool) : Value := .agg (frC b)
theorem zero61 (w : World) : (zeroValue 61).run Yba.prog w = .ok (frV false) w := by kernel_rfl
theorem Yba.info45 : (Yba.prog.info? 45).map (fun i => (i.zero, i.size, i.bytes)) = some (some (.pointer none), 1, 8) := by kernel_rfl
theorem Yba.info3 : (Yba.prog.info? 3).map (fun i => (i.zero, i.size, i.bytes)) = some (some (.int .i64 0), 1, 8) := by kernel_rfl

/-- what block b must be: a member seen at s, whose files say c under name -/
def MemOK (B2 : Nat) (name : ByteArray) (W : World) (b : Nat) (s : Int) (c : Bool) : Prop :=
  B2 ≤ b ∧ ∃ cs fm, W.heap[b]? = some (.cells cs 52 (0, 0)) ∧ cs[5]? = some (.int .u64 (s % 1000000000)) ∧ cs[6]? = some (.int .i64 (s / 1000000000)) ∧ cs[7]? = some (.pointer none) ∧ cs[8]? = some (.map fm) ∧
    ((fm = none ∧ c = false) ∨ ∃ r G, fm = some r ∧ B2 ≤ r ∧ MapIs W r G ∧ (G name).getD (frV false) = frV c)
theorem MemOK.lt {B2 : Nat} {name : ByteArray} {W : World} {b : Nat} {s : Int} {c : Bool} (h : MemOK B2 name W b s c) : b < W.heap.size := by
  obtain ⟨_, cs, fm, h1, _⟩ := h
  exact (Array.getElem?_eq_some_iff.1 h1).1
/-- it stays while other blocks turn -/
theorem MemOK.grown {B2 : Nat} {name : ByteArray} {W W' : World} {b : Nat} {s : Int} {c : Bool} (h : MemOK B2 name W b s c) {row : Option Nat} (hg : W.grownBy W' row) (hx : ∀ x, row = some x → x < B2 ∨ ∃ cs t, W.heap[x]? = some (.cells cs t (0, 0)) ∧ t ≠ 52) : MemOK B2 name W' b s c := by
  have hlt := h.lt
  obtain ⟨hb, cs, fm, h1, h5, h6, h7, h8, h9⟩ := h
  refine ⟨hb, cs, fm, (hg.block b hlt ?_).trans h1, h5, h6, h7, h8, ?_⟩
  · intro e
    rcases hx b e.symm with hx | ⟨cs', t, hx, ht⟩
    · omega
    · rw [h1] at hx; simp at hx; exact ht hx.2.symm
  · rcases h9 with h9 | ⟨r, G, hr, hrb, hm, hG⟩
    · exact .inl h9
    · refine .inr ⟨r, G, hr, hrb, hm.of_block (hg.block r hm.lt ?_), hG⟩
      intro e
      rcases hx r e.symm with hx | ⟨cs', t, hx, ht⟩
      · omega
      · obtain ⟨es, cl, hm1, _⟩ := hm
        rw [hm1] at hx; simp at hx
/-- what a walk reads of it, in whatever later world -/
theorem MemOK.reads {B2 : Nat} {name : ByteArray} {W : World} {b : Nat} {s : Int} {c : Bool} (h : MemOK B2 name W b s c) :
    ∃ fm, ∀ X, Below W.heap.size W X → X.cell? ⟨b, 5, none⟩ = some (.int .u64 (s % 1000000000)) ∧ X.cell? ⟨b, 6, none⟩ = some (.int .i64 (s / 1000000000)) ∧ X.cell? ⟨b, 7, none⟩ = some (.pointer none) ∧ X.cell? ⟨b, 8, none⟩ = some (.map fm) ∧
      (Instr.lookup 50 (.map fm) (.string name) false).run Yba.prog X = .ok (.agg (frC c)) X := by
  have hlt := h.lt
  obtain ⟨hb, cs, fm, h1, h5, h6, h7, h8, h9⟩ := h
  refine ⟨fm, fun X hX => ?_⟩
  have hc : ∀ i, X.cell? ⟨b, i, none⟩ = cs[i]? := fun i => by
    rw [hX.cell (by exact hlt)]; simp [World.cell?, h1]
  refine ⟨(hc 5).trans h5, (hc 6).trans h6, (hc 7).trans h7, (hc 8).trans h8, ?_⟩
  rcases h9 with ⟨rfl, rfl⟩ | ⟨r, G, rfl, _, hm, hG⟩
  · exact run_lookup_nil Yba.underlying50 Yba.underlying9 zero61 name
  · have := run_lookup_map (P := Yba.prog) Yba.underlying50 Yba.underlying9 zero61 (hm.of_block (hX.block r hm.lt)) name
    rw [hG] at this
    exact this

def ptrOf (mb : Nat → Nat) (i : Nat) : Value := .pointer (some ⟨mb i, 0, none⟩)
/-- who is chosen among the first k -/
def selTo (p : Nat → Bool) (k : Nat) : List Nat := (List.range k).filter p
theorem selTo_succ (p : Nat → Bool) (k : Nat) : selTo p (k + 1) = selTo p k ++ if p k then [k] else [] := by
  unfold selTo; rw [List.range_succ, List.filter_append]; cases h : p k <;> simp [h]
theorem selTo_len (p : Nat → Bool) (k : Nat) : (selTo p k).length ≤ k := by
  have := List.length_filter_le p (List.range k); simpa [selTo] using this
theorem selTo_lt {p : Nat → Bool} {k i : Nat} (h : i ∈ selTo p k) : i < k := by
  unfold selTo at h; simp at h; exact h.1

theorem one_src (w : World) (v : Value) (t g : Nat) (hg : g = w.heap.size) : ∀ (j : Nat) (u : Value), ([v] : List Value)[j]? = some u → (w.alloc (.cells #[v] t)).cell? ((⟨g, 0, none⟩ : Addr).add j) = some u := by
  subst hg
  intro j u hj
  rw [addr_add]
  match j, hj with
  | 0, hj => simp at hj; subst hj; simp

theorem fld61 (b : Bool) (w : World) : (Instr.field 61 (.agg #[.string ⟨#[]⟩, .int .i64 0, .int .i64 0, .int .i64 0, .string ⟨#[]⟩, .string ⟨#[]⟩, .int .u64 0, .int .i64 0, .pointer none, .string ⟨#[]⟩, .int .i64 0, .int .i64 0, .int .i64 0, .int .i64 0, .bool b, .bool false, .bool false, .bool false, .string ⟨#[]⟩, .slice none 0 0]) 3).run Yba.prog w = .ok (.agg #[.int .i64 0, .int .i64 0, .int .i64 0, .int .i64 0, .bool b, .bool false, .bool false, .bool false, .string ⟨#[]⟩, .slice none 0 0]) w := by kernel_rfl
theorem fld59 (b : Bool) (w : World) : (Instr.field 59 (.agg #[.int .i64 0, .int .i64 0, .int .i64 0, .int .i64 0, .bool b, .bool false, .bool false, .bool false, .string ⟨#[]⟩, .slice none 0 0]) 4).run Yba.prog w = .ok (.bool b) w := by kernel_rfl

theorem own_below {w w1 : World} {base e size n : Nat} {v : Value} {xs : List Value} (h : w.ownsRow base e size v n xs) (hb : Below w.heap.size w w1) : w1.ownsRow base e size v n xs :=
  h.kept (row := none) ⟨hb.os, hb.tape, hb.output, hb.size, fun k hk _ => hb.block k hk⟩ (by cases hv : v.ownBlock <;> simp)

theorem own_base {w : World} {base base' e size n : Nat} {v : Value} {xs : List Value} (h : w.ownsRow base e size v n xs) (hb : base' ≤ base) : w.ownsRow base' e size v n xs := by
  obtain ⟨h1, h2⟩ := h
  refine ⟨h1, ?_⟩
  rcases h2 with h2 | ⟨g, cap, cur, hv, hg, r⟩
  · exact .inl h2
  · exact .inr ⟨g, cap, cur, hv, by omega, r⟩

theorem hold_close {W0 w1 w2 : World} {B k : Nat} {v v' : Value} {mb : Nat → Nat} {L L' : List Nat} {o : Obj} (hB : Below B W0 w1) (hown : w1.ownsRow B 45 1 v L.length (L.map (ptrOf mb))) (hown' : w2.ownsRow B 45 1 v' (L.length + 1) (L.map (ptrOf mb) ++ [.pointer (some ⟨mb k, 0, none⟩)]))
    (hgrow : (w1.alloc o).grownBy w2 v.ownBlock) (hL : L' = L ++ [k]) (hBs : B ≤ w1.heap.size) : Hid (Below B W0 w2) ∧ Hid (w2.ownsRow B 45 1 v' L'.length (L'.map (ptrOf mb))) := by
  subst hL
  refine ⟨hid ((hB.alloc hBs o).grown hgrow (by simp; omega) (fun k hk => (hown.lt k hk).1)), ?_⟩
  rw [List.length_append, List.map_append]
  exact hown'

set_option maxRecDepth 20000 in
set_option maxHeartbeats 1000000 in
/-- (*Coordinator).holding. -/
theorem hold_any (B2 gc g l cm : Nat) (am : Option Addr) (name : ByteArray) (n s : Int) (mb : Nat → Nat) (sn : Nat → Int) (c : Nat → Bool) (W : World) (hl : l ≤ 4398046511104) (hgc : gc < W.heap.size) (hg : 0 < l → g < W.heap.size)
    (hv : W.cell? ⟨gc, 2, none⟩ = some (.slice am l cm))
    (hix : ∀ j, j < l → ∀ w : World, (Instr.indexAt 39 (.slice am l cm) (.int .i64 (j : Int))).run Yba.prog w = .ok (.pointer (some ⟨g, j, none⟩)) w)
    (hcl : ∀ j, j < l → W.cell? ⟨g, j, none⟩ = some (ptrOf mb j)) (hmem : ∀ j, j < l → MemOK B2 name W (mb j) (sn j) (c j))
    (hsn : ∀ j, j < l → -9223372036854775808 ≤ sn j ∧ sn j ≤ 9223372036854775807)
    (h0 : 0 ≤ n) (h1 : n < 1000000000) (hN0 : -9223372036854775808 ≤ s * 1000000000 + n) (hN1 : s * 1000000000 + n ≤ 9223372036854775807) :
    Calls Yba.prog 6 #[.pointer (some ⟨gc, 0, none⟩), .string name, .agg #[.int .u64 n, .int .i64 s, .pointer none]] W fun e w' =>
      ∃ v, e = .returned v ∧ Below W.heap.size W w' ∧ w'.ownsRow W.heap.size 45 1 v (selTo (fun j => c j && aliveB (s * 1000000000 + n) (sn j)) l).length ((selTo (fun j => c j && aliveB (s * 1000000000 + n) (sn j)) l).map (ptrOf mb)) ∧
        (selTo (fun j => c j && aliveB (s * 1000000000 + n) (sn j)) l = [] → v = .slice none 0 0) := by
  obtain ⟨i0, hi, hz0, hz1, hz2⟩ := info_parts Yba.info45
  have F1 := hid hi
  have F2 := hid hz0
  have F3 := hid hz1
  have F4 := hid hz2
  clear hi hz0 hz1 hz2
  have HI := hid hix
  have HC := hid hcl
  have HM := hid hmem
  have HS := hid hsn
  have HG := hid hg
  clear hix hcl hmem hsn hg
  have fA := fld61
  have fB := fld59
  go_enter Yba.func6, Yba.ntmps6
  go_wp2
  go_loopw [7, 15] (fun v i wr => ∃ k : Nat, k ≤ l ∧ i = .int .i64 k ∧ Hid (Below (W.heap.size + 1) (W.alloc (.cells #[.int .u64 n, .int .i64 s, .pointer none] 29)) wr) ∧ Hid (wr.ownsRow (W.heap.size + 1) 45 1 v (selTo (fun j => c j && aliveB (s * 1000000000 + n) (sn j)) k).length ((selTo (fun j => c j && aliveB (s * 1000000000 + n) (sn j)) k).map (ptrOf mb))) ∧ Hid (selTo (fun j => c j && aliveB (s * 1000000000 + n) (sn j)) k = [] → v = .slice none 0 0)) (fun _ i _ => l - (intOf i).toNat)
  case atStart => exact ⟨0, Nat.zero_le _, rfl, hid (Below.refl _ _), hid (World.ownsRow_nil _ _ _ _), hid (fun _ => rfl)⟩
  case round =>
    obtain ⟨k, hk, rfl, HB, hown, hnil⟩ := hrel
    have HBW := hid (((Below.refl W.heap.size W).alloc (Nat.le_refl _) (.cells #[.int .u64 n, .int .i64 s, .pointer none] 29)).trans (HB.out.mono (Nat.le_succ _)))
    by_cases hlt : k < l
    · have hik := HI.out k hlt
      have hgw := HG.out (by omega)
      have hck : wr.cell? ⟨g, k, none⟩ = some (.pointer (some ⟨mb k, 0, none⟩)) := (HBW.out.cell (by exact hgw)).trans (HC.out k hlt)
      have x0 : wr.cell? ⟨W.heap.size, 0, none⟩ = some (.int .u64 n) := (HB.out.cell (by exact Nat.lt_succ_self _)).trans (by simp)
      have x1 : wr.cell? ⟨W.heap.size, 1, none⟩ = some (.int .i64 s) := (HB.out.cell (by exact Nat.lt_succ_self _)).trans (by simp)
      have x2 : wr.cell? ⟨W.heap.size, 2, none⟩ = some (.pointer none) := (HB.out.cell (by exact Nat.lt_succ_self _)).trans (by simp)
      have hmw : mb k < wr.heap.size := Nat.lt_of_lt_of_le (HM.out k hlt).lt HBW.out.size
      obtain ⟨fm, RD0⟩ := (HM.out k hlt).reads
      have RD := hid RD0
      clear RD0
      obtain ⟨r5, r6, r7, _, _⟩ := RD.out wr HBW.out
      obtain ⟨sn0, sn1⟩ := HS.out k hlt
      have hT := hid (show sn k / 1000000000 * 1000000000 + sn k % 1000000000 = sn k by omega)
      cases hal : aliveB (s * 1000000000 + n) (sn k) with
      | false =>
        have hAl := hid hal
        have hSel := hid (show selTo (fun j => c j && aliveB (s * 1000000000 + n) (sn j)) (k + 1) = selTo (fun j => c j && aliveB (s * 1000000000 + n) (sn j)) k by rw [selTo_succ, hal]; simp)
        have hCk := hid (rfl : c k = c k)
        clear hal
        go_wp2_with (go_at_call 11; refine (alive_core (mb k) n s (sn k % 1000000000) (sn k / 1000000000) _ hmw r5 r6 r7 h0 h1 (by omega) (by omega) hN0 hN1 (by omega) (by omega)).mono ?_; rintro e w1 ⟨rfl, hb1⟩; have HB1 := hid (HBW.out.trans (hb1.mono HBW.out.size)); have HBk := hid (HB.out.trans (hb1.mono (by have := HB.out.size; simp at this; omega))); have r8 := (RD.out w1 HB1.out).2.2.2.1; have hlk := (RD.out w1 HB1.out).2.2.2.2; rw [hT.out, hAl.out]; rw [hCk.out] at hlk; unfold frC at hlk; have hOw := hid (own_below hown.out hb1); clear hb1)
        go_roundw
        case rel => exact ⟨k + 1, by omega, by go_num, HBk, by rw [hSel.out]; exact hOw, by rw [hSel.out]; exact hnil⟩
        case measure => simp [intOf]; omega
      | true =>
        have hAl := hid hal
        cases hc : c k with
        | false =>
          have hCk := hid hc
          have hSel := hid (show selTo (fun j => c j && aliveB (s * 1000000000 + n) (sn j)) (k + 1) = selTo (fun j => c j && aliveB (s * 1000000000 + n) (sn j)) k by rw [selTo_succ, hc]; simp)
          clear hal hc
          go_wp2_with (go_at_call 11; refine (alive_core (mb k) n s (sn k % 1000000000) (sn k / 1000000000) _ hmw r5 r6 r7 h0 h1 (by omega) (by omega) hN0 hN1 (by omega) (by omega)).mono ?_; rintro e w1 ⟨rfl, hb1⟩; have HB1 := hid (HBW.out.trans (hb1.mono HBW.out.size)); have HBk := hid (HB.out.trans (hb1.mono (by have := HB.out.size; simp at this; omega))); have r8 := (RD.out w1 HB1.out).2.2.2.1; have hlk := (RD.out w1 HB1.out).2.2.2.2; rw [hT.out, hAl.out]; rw [hCk.out] at hlk; unfold frC at hlk; have hOw := hid (own_below hown.out hb1); clear hb1)
          go_roundw
          case rel => exact ⟨k + 1, by omega, by go_num, HBk, by rw [hSel.out]; exact hOw, by rw [hSel.out]; exact hnil⟩
          case measure => simp [intOf]; omega
        | true =>
          have hCk := hid hc
          have hSel := hid (show selTo (fun j => c j && aliveB (s * 1000000000 + n) (sn j)) (k + 1) = selTo (fun j => c j && aliveB (s * 1000000000 + n) (sn j)) k ++ [k] by rw [selTo_succ, hc, hal]; simp)
          have hlen := selTo_len (fun j => c j && aliveB (s * 1000000000 + n) (sn j)) k
          clear hal hc
          go_wp2_with (first
            | (go_at_call 11; refine (alive_core (mb k) n s (sn k % 1000000000) (sn k / 1000000000) _ hmw r5 r6 r7 h0 h1 (by omega) (by omega) hN0 hN1 (by omega) (by omega)).mono ?_; rintro e w1 ⟨rfl, hb1⟩; have HB1 := hid (HBW.out.trans (hb1.mono HBW.out.size)); have HBk := hid (HB.out.trans (hb1.mono (by have := HB.out.size; simp at this; omega))); have r8 := (RD.out w1 HB1.out).2.2.2.1; have hlk := (RD.out w1 HB1.out).2.2.2.2; rw [hT.out, hAl.out]; rw [hCk.out] at hlk; unfold frC at hlk; have hOw := hid (own_below hown.out hb1); clear hb1)
            | (at_builtin; refine wpList_append_own _ rfl (.tmp 32) (.tmp 34) 39 rfl (W.heap.size + 1) 45 i0 (.pointer none) 1 8 Yba.underlying39 F1.out F2.out F3.out F4.out rfl (by decide) _ _ _ rfl (hOw.out.alloc _) ⟨w1.heap.size, 0, none⟩ 1 1 [.pointer (some ⟨mb k, 0, none⟩)] rfl rfl (one_src _ _ _ _ rfl) (by intro u hu; simp at hu; subst hu; rfl) (by unfold maxLen; omega) (by omega) (by have := HBk.out.size; simp at this ⊢; omega) ?_; intro v' w2 hown' hgrow hiff))
          have R := hold_close HBk.out hOw.out hown' hgrow hSel.out (by have := HBk.out.size; simp at this; omega)
          clear hown' hgrow hown hiff
          go_wp2
          go_roundw
          case rel => exact ⟨k + 1, by omega, by go_num, R.1, R.2, hid (fun h => by rw [hSel.out] at h; simp at h)⟩
          case measure => simp [intOf]; omega
    · have ek : k = l := by omega
      have hv := hown.out
      have hn := hnil.out
      rw [ek] at hv hn
      have HV := hid hv
      have HN := hid hn
      clear hv hn hown hnil
      go_wp2
      go_ret
      exact ⟨_, rfl, HBW.out, own_base HV.out (Nat.le_succ _), HN.out⟩

end Go.Proofs.Ybulkdkbg
