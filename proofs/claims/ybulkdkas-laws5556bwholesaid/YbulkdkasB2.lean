import Derived.Test.YbulkdkasB1
import Derived.Deep.LoopGhost
namespace Go.Proofs.Ybulkdkas
open Go.RowKit Go.Deep

theorem take_succ_eq {X Y : List (Int × Int)} {k : Nat} (hx : k < X.length) (hy : k < Y.length) (h : X.take k = Y.take k) (h1 : (X.getD k (0, 0)).1 = (Y.getD k (0, 0)).1) (h2 : (X.getD k (0, 0)).2 = (Y.getD k (0, 0)).2) : X.take (k + 1) = Y.take (k + 1) := by
  have e1 : X.getD k (0, 0) = X[k] := by simp [List.getD, hx]
  have e2 : Y.getD k (0, 0) = Y[k] := by simp [List.getD, hy]
  rw [List.take_succ_eq_append_getElem hx, List.take_succ_eq_append_getElem hy, h, ← e1, ← e2, Prod.ext h1 h2]

set_option maxHeartbeats 400000 in
theorem eq_any (xa ya : Option Addr) (nx cx bx ox ny cy by' oy : Nat) (X Y : List (Int × Int)) (w : World) (hnx : nx ≤ 1048576) (hny : ny ≤ 1048576) (hX : MemsIn w 23 xa nx cx bx ox X) (hY : MemsIn w 23 ya ny cy by' oy Y) :
    Calls Yba.prog 7 #[.slice xa nx cx, .slice ya ny cy] w fun e w' => e = .returned (.bool (decide (X = Y))) ∧ ∃ m, w' = w.drewN m := by
  have HX := hid hX
  have HY := hid hY
  clear hX hY
  by_cases hne : nx = ny
  · subst hne
    go_enter Yba.func7, Yba.ntmps7
    go_wp2
    go_loopw [5] (fun i wr => ∃ k : Nat, k ≤ nx ∧ i = .int .i64 k ∧ Hid (∃ m, wr = w.drewN m) ∧ Hid (X.take k = Y.take k)) (fun i _ => nx - (intOf i).toNat)
    case atStart => exact ⟨0, Nat.zero_le _, rfl, hid ⟨0, rfl⟩, hid rfl⟩
    case round =>
      obtain ⟨k, hk, rfl, hw, ht⟩ := hrel
      by_cases hlt : k < nx
      · obtain ⟨m, rfl⟩ := hw.out
        have i1 := HX.out.ix k hlt
        have i2 := HY.out.ix k hlt
        have p0 := HX.out.c0 k hlt
        have p1 := HX.out.c1 k hlt
        have q0 := HY.out.c0 k hlt
        have q1 := HY.out.c1 k hlt
        have T := fun h1 h2 => hid (take_succ_eq (X := X) (Y := Y) (k := k) (by rw [HX.out.len]; exact hlt) (by rw [HY.out.len]; exact hlt) ht.out h1 h2)
        have D1 : (X.getD k (0, 0)).1 ≠ (Y.getD k (0, 0)).1 → decide (X = Y) = false := fun h => decide_eq_false (fun e => h (by rw [e]))
        have D2 : (X.getD k (0, 0)).2 ≠ (Y.getD k (0, 0)).2 → decide (X = Y) = false := fun h => decide_eq_false (fun e => h (by rw [e]))
        have T' := hid T
        have HD1 := hid D1
        have HD2 := hid D2
        clear T D1 D2
        generalize (X.getD k (0, 0)).1 = xh at p0 T' HD1
        generalize (X.getD k (0, 0)).2 = xc at p1 T' HD2
        generalize (Y.getD k (0, 0)).1 = yh at q0 T' HD1
        generalize (Y.getD k (0, 0)).2 = yc at q1 T' HD2
        by_cases e1 : xh = yh
        · subst e1
          by_cases e2 : xc = yc
          · subst e2
            have R := T'.out rfl rfl
            go_wp2
            go_quiet (fail)
            go_wp2
            go_roundw
            case rel => exact ⟨k + 1, by omega, by go_num, hid ⟨_, rfl⟩, R⟩
            case measure => simp [intOf]; omega
          · have b2 : (xc == yc) = false := beq_eq_false_iff_ne.2 e2
            have hD := hid (HD2.out e2)
            clear e2
            go_wp2
            go_quiet (fail)
            go_wp2
            go_ret
            exact ⟨by rw [hD.out]; rfl, m + nq, by simp⟩
        · have b1 : (xh == yh) = false := beq_eq_false_iff_ne.2 e1
          have hD := hid (HD1.out e1)
          clear e1
          go_wp2
          go_quiet (fail)
          go_wp2
          go_ret
          exact ⟨by rw [hD.out]; rfl, m + nq, by simp⟩
      · go_wp2
        go_ret
        have hXY : X = Y := by
          have h := ht.out
          rw [List.take_of_length_le (by rw [HX.out.len]; omega), List.take_of_length_le (by rw [HY.out.len]; omega)] at h
          exact h
        exact ⟨by rw [decide_eq_true hXY]; rfl, hw.out⟩
  · have hb : ((nx : Int) != (ny : Int)) = true := by rw [bne_iff_ne]; omega
    have hD := hid (decide_eq_false (p := X = Y) (fun e => hne (by rw [← HX.out.len, ← HY.out.len, e])))
    clear hne
    go_enter Yba.func7, Yba.ntmps7
    go_wp2
    go_ret
    exact ⟨by rw [hD.out]; rfl, 0, rfl⟩

/-- one less at the counter of process h -/
def dcr (h : Int) (p : Int × Int) : Int × Int := if p.1 = h then (p.1, (p.2 - 1) % 4294967296) else p
/-- what remains -/
def red (h : Int) (M : List (Int × Int)) : List (Int × Int) := (M.map (dcr h)).filter (fun q => q.2 != 0)
theorem red_drop {h : Int} {M : List (Int × Int)} {k : Nat} (hk : k < M.length) : red h (M.drop k) = if (dcr h (M.getD k (0, 0))).2 = 0 then red h (M.drop (k + 1)) else dcr h (M.getD k (0, 0)) :: red h (M.drop (k + 1)) := by
  have e : M.getD k (0, 0) = M[k] := by simp [List.getD, hk]
  rw [List.drop_eq_getElem_cons hk, e]
  unfold red
  rw [List.map_cons, List.filter_cons]
  by_cases h0 : (dcr h M[k]).2 = 0 <;> simp [h0]
theorem red_take {h : Int} {M : List (Int × Int)} {k : Nat} (hk : k < M.length) : red h (M.take (k + 1)) = red h (M.take k) ++ (if (dcr h (M.getD k (0, 0))).2 = 0 then [] else [dcr h (M.getD k (0, 0))]) := by
  have e : M.getD k (0, 0) = M[k] := by simp [List.getD, hk]
  rw [List.take_succ_eq_append_getElem hk, e]
  unfold red
  rw [List.map_append, List.filter_append]
  by_cases h0 : (dcr h M[k]).2 = 0 <;> simp [h0]
theorem red_len (h : Int) (M : List (Int × Int)) : (red h M).length ≤ M.length := by
  unfold red; have := List.length_filter_le (fun q : Int × Int => q.2 != 0) (M.map (dcr h)); simpa using this

/-- nextUnticked: what the clock's variable holds: the members from k on. -/
structure At (w : World) (pa g n k : Nat) (M : List (Int × Int)) : Prop where
  len : M.length = n
  le : k ≤ n
  pos : ∀ i, 0 ≤ (M.getD i (0, 0)).2
  cell : ∃ ao, w.cell? ⟨pa, 0, none⟩ = some (.slice ao (n - k) (n - k)) ∧ (k < n → ao = some ⟨g, k * 2, none⟩)
  free : w.frozen? ⟨pa, 0, none⟩ = false
  row : 0 < n → w.rowIs g 45 (n * 2) (memF M)
theorem At.lt {w : World} {pa g n k : Nat} {M : List (Int × Int)} (h : At w pa g n k M) : pa < w.heap.size := by
  obtain ⟨ao, hc, _⟩ := h.cell
  exact World.block_lt_of_cell? w ⟨pa, 0, none⟩ hc
theorem At.other {w W : World} {pa g n k : Nat} {M : List (Int × Int)} (h : At w pa g n k M) (h1 : W.heap[pa]? = w.heap[pa]?) (h2 : 0 < n → W.heap[g]? = w.heap[g]?) : At W pa g n k M :=
  ⟨h.len, h.le, h.pos, by obtain ⟨ao, hc, ha⟩ := h.cell; exact ⟨ao, (World.cell?_of_block (a := ⟨pa, 0, none⟩) h1).trans hc, ha⟩, (World.frozen?_of_block (a := ⟨pa, 0, none⟩) h1).trans h.free, fun h0 => (h.row h0).of_block (h2 h0)⟩
theorem At.alloc {w : World} {pa g n k : Nat} {M : List (Int × Int)} (h : At w pa g n k M) (o : Obj) : At (w.alloc o) pa g n k M :=
  h.other (Below.heap_alloc _ _ _ h.lt) (fun h0 => Below.heap_alloc _ _ _ (h.row h0).lt)
theorem At.setOther {w : World} {pa g n k : Nat} {M : List (Int × Int)} (h : At w pa g n k M) (a : Addr) (v : Value) (h1 : pa ≠ a.block) (h2 : 0 < n → g ≠ a.block) : At (w.setCell a v) pa g n k M :=
  h.other (Below.heap_setCell _ _ _ _ h1) (fun h0 => Below.heap_setCell _ _ _ _ (h2 h0))
/-- the variable goes one member on -/
theorem At.step {w : World} {pa g n k : Nat} {M : List (Int × Int)} (h : At w pa g n k M) (hne : 0 < n → pa ≠ g) (k' : Nat) (hk : k' ≤ n) {ao : Option Addr} {a b : Nat} (ha : a = n - k') (hb : b = n - k') (hao : k' < n → ao = some ⟨g, k' * 2, none⟩) : At (w.setCell ⟨pa, 0, none⟩ (.slice ao a b)) pa g n k' M := by
  subst ha; subst hb
  obtain ⟨ao0, hc, _⟩ := h.cell
  refine ⟨h.len, hk, h.pos, ⟨ao, World.cell?_setCell_same w _ _ hc, hao⟩, ?_, fun h0 => (h.row h0).setOther (by exact fun e => hne h0 e.symm) _⟩
  rw [World.frozen?_setCell]; exact h.free
theorem grown_set {w W : World} {pa : Nat} (h : w.grownBy W (some pa)) (a : Addr) (v : Value) (ha : a.block = pa ∨ w.heap.size ≤ a.block) : w.grownBy (W.setCell a v) (some pa) :=
  ⟨h.os, h.tape, h.output, by simpa [World.setCell] using h.size, fun k hk hne => by
    have hka : k ≠ a.block := by
      rcases ha with ha | ha
      · exact fun e => hne (by rw [e, ha])
      · omega
    rw [Below.heap_setCell _ _ _ _ hka]; exact h.block k hk hne⟩
theorem grown_alloc {w W : World} {pa : Nat} (h : w.grownBy W (some pa)) (o : Obj) : w.grownBy (W.alloc o) (some pa) :=
  ⟨h.os, h.tape, h.output, by have := h.size; simp; omega, fun k hk hne => by
    rw [Below.heap_alloc _ _ _ (by have := h.size; omega)]; exact h.block k hk hne⟩

theorem dcr_hit {h c : Int} : dcr h (h, c) = (h, (c - 1) % 4294967296) := by simp [dcr]
theorem dcr_miss {h x c : Int} (e : x ≠ h) : dcr h (x, c) = (x, c) := by simp [dcr, e]

/-- the round goes on: the member came to 0 -/
theorem next_go {w wr : World} {pa g n k j m : Nat} {h x y : Int} {M : List (Int × Int)} (hpa : pa < w.heap.size) (hne : 0 < n → pa ≠ g) (hsz : w.heap.size < wr.heap.size) (hM : n - j = m + 1)
    (hA : At wr pa g n j M) (hR : red h (M.drop k) = red h (M.drop j)) (hG : w.grownBy wr (some pa)) (y0 : wr.cell? ⟨w.heap.size, 0, none⟩ = some (.int .i32 0)) (y1 : wr.cell? ⟨w.heap.size, 1, none⟩ = some (.int .u32 0))
    (z0 : wr.frozen? ⟨w.heap.size, 0, none⟩ = false) (z1 : wr.frozen? ⟨w.heap.size, 1, none⟩ = false) (hRD : red h (M.drop j) = if y = 0 then red h (M.drop (j + 1)) else (x, y) :: red h (M.drop (j + 1)))
    (a : Option Addr) (mm : Nat) (o : Obj) (hmm : mm = m) (ha : j + 1 < n → a = some ⟨g, (j + 1) * 2, none⟩) (h0 : y = 0) (W : World) (hW : W = (wr.setCell ⟨pa, 0, none⟩ (.slice a mm mm)).alloc o) :
    Hid (At W pa g n (j + 1) M) ∧ Hid (red h (M.drop k) = red h (M.drop (j + 1))) ∧ Hid (w.grownBy W (some pa)) ∧ w.heap.size < W.heap.size ∧
      W.cell? ⟨w.heap.size, 0, none⟩ = some (.int .i32 0) ∧ W.cell? ⟨w.heap.size, 1, none⟩ = some (.int .u32 0) ∧ W.frozen? ⟨w.heap.size, 0, none⟩ = false ∧ W.frozen? ⟨w.heap.size, 1, none⟩ = false := by
  subst hW
  have hA1 := hA.step hne (j + 1) (by omega) (ao := a) (a := mm) (b := mm) (by omega) (by omega) ha
  have hsz1 : w.heap.size < (wr.setCell ⟨pa, 0, none⟩ (.slice a mm mm)).heap.size := by simpa [World.setCell] using hsz
  have hbk : ((wr.setCell ⟨pa, 0, none⟩ (.slice a mm mm)).alloc o).heap[w.heap.size]? = wr.heap[w.heap.size]? := by
    rw [Below.heap_alloc _ _ _ hsz1, Below.heap_setCell _ _ _ _ (by show w.heap.size ≠ pa; omega)]
  rw [if_pos h0] at hRD
  refine ⟨hid (hA1.alloc o), hid (hR.trans hRD), hid (grown_alloc (grown_set hG _ _ (.inl rfl)) o), by simp; omega, ?_, ?_, ?_, ?_⟩
  · exact (World.cell?_of_block (a := ⟨w.heap.size, 0, none⟩) hbk).trans y0
  · exact (World.cell?_of_block (a := ⟨w.heap.size, 1, none⟩) hbk).trans y1
  · exact (World.frozen?_of_block (a := ⟨w.heap.size, 0, none⟩) hbk).trans z0
  · exact (World.frozen?_of_block (a := ⟨w.heap.size, 1, none⟩) hbk).trans z1

/-- the round answers: the member stays -/
theorem next_out {w wr : World} {pa g n k j m : Nat} {h x y : Int} {M : List (Int × Int)} (hpa : pa < w.heap.size) (hne : 0 < n → pa ≠ g) (hgn : g ≠ w.heap.size) (hM : n - j = m + 1)
    (hA : At wr pa g n j M) (hR : red h (M.drop k) = red h (M.drop j)) (hG : w.grownBy wr (some pa)) (hRD : red h (M.drop j) = if y = 0 then red h (M.drop (j + 1)) else (x, y) :: red h (M.drop (j + 1)))
    (a : Option Addr) (mm : Nat) {o : Obj} (hmm : mm = m) (ha : j + 1 < n → a = some ⟨g, (j + 1) * 2, none⟩) (hy : y ≠ 0) :
    w.grownBy ((((wr.setCell ⟨pa, 0, none⟩ (.slice a mm mm)).setCell ⟨w.heap.size, 0, none⟩ (.int .i32 x)).setCell ⟨w.heap.size, 1, none⟩ (.int .u32 y)).alloc o) (some pa) ∧ red h (M.drop k) = (x, y) :: red h (M.drop (j + 1)) ∧
      At ((((wr.setCell ⟨pa, 0, none⟩ (.slice a mm mm)).setCell ⟨w.heap.size, 0, none⟩ (.int .i32 x)).setCell ⟨w.heap.size, 1, none⟩ (.int .u32 y)).alloc o) pa g n (j + 1) M := by
  have hpn' : pa ≠ w.heap.size := by omega
  have hA1 := hA.step hne (j + 1) (by omega) (ao := a) (a := mm) (b := mm) (by omega) (by omega) ha
  rw [if_neg hy] at hRD
  exact ⟨grown_alloc (grown_set (grown_set (grown_set hG _ _ (.inl rfl)) _ _ (.inr (Nat.le_refl _))) _ _ (.inr (Nat.le_refl _))) o, hR.trans hRD, ((hA1.setOther _ _ (by exact hpn') (fun _ => by exact hgn)).setOther _ _ (by exact hpn') (fun _ => by exact hgn)).alloc o⟩

/-- what nextUnticked comes to -/
def NextPost (w w' : World) (pa g n k : Nat) (h : Int) (M : List (Int × Int)) (e : Ending) : Prop := w.grownBy w' (some pa) ∧
  ((e = .returned (.tuple #[.agg #[.int .i32 0, .int .u32 0], .bool false]) ∧ red h (M.drop k) = [] ∧ At w' pa g n n M) ∨
   ∃ j x y, k ≤ j ∧ j < n ∧ e = .returned (.tuple #[.agg #[.int .i32 x, .int .u32 y], .bool true]) ∧ red h (M.drop k) = (x, y) :: red h (M.drop (j + 1)) ∧ At w' pa g n (j + 1) M)

set_option maxHeartbeats 800000 in
theorem next_any (pa g n k : Nat) (h : Int) (M : List (Int × Int)) (w : World) (hn : n ≤ 1048576) (hpa : pa < w.heap.size) (hne : 0 < n → pa ≠ g) (hat : At w pa g n k M) :
    Calls Yba.prog 11 #[.pointer (some ⟨pa, 0, none⟩), .int .i32 h] w fun e w' => NextPost w w' pa g n k h M e := by
  have hgw : 0 < n → g < w.heap.size := fun h0 => (hat.row h0).lt
  have HA := hid hat
  clear hat
  go_enter Yba.func11, Yba.ntmps11
  go_wp2
  go_loopg [5] (n - k) (fun gk t wr => ∃ j : Nat, k ≤ j ∧ j ≤ n ∧ gk = n - j ∧ t = .bool false ∧ Hid (At wr pa g n j M) ∧ Hid (red h (M.drop k) = red h (M.drop j)) ∧ Hid (w.grownBy wr (some pa)) ∧ w.heap.size < wr.heap.size ∧
    wr.cell? ⟨w.heap.size, 0, none⟩ = some (.int .i32 0) ∧ wr.cell? ⟨w.heap.size, 1, none⟩ = some (.int .u32 0) ∧ wr.frozen? ⟨w.heap.size, 0, none⟩ = false ∧ wr.frozen? ⟨w.heap.size, 1, none⟩ = false)
  case atStart => exact ⟨k, Nat.le_refl _, HA.out.le, rfl, rfl, hid (HA.out.alloc _), hid rfl, hid (World.grownBy_alloc _ _ _), by simp, by simp, by simp, by simp, by simp⟩
  case round =>
    obtain ⟨j, hkj, hjn, rfl, rfl, HA', HR, HG, hsz, y0, y1, z0, z1⟩ := hrel
    clear HA
    obtain ⟨ao, hc, hao⟩ := HA'.out.cell
    have hfr := HA'.out.free
    have hpw : pa < wr.heap.size := by omega
    have hpn : pa ≠ wr.heap.size := by omega
    have hpn' : pa ≠ w.heap.size := by omega
    by_cases hlt : j < n
    · have hao' := hao hlt
      subst hao'
      clear hao
      have hrow := HA'.out.row (by omega)
      have hgl := hrow.lt
      have hgn : g ≠ w.heap.size := by have := hgw (by omega); omega
      have p0 := hrow.cell (i := j * 2) (by omega)
      have p1 := hrow.cell (i := j * 2 + 1) (by omega)
      rw [memF0] at p0; rw [memF1] at p1
      clear hrow
      have hmp := HA'.out.pos j
      have RD := hid (red_drop (h := h) (M := M) (k := j) (by rw [HA'.out.len]; exact hlt))
      obtain ⟨m, hm⟩ : ∃ m, n - j = m + 1 := ⟨n - j - 1, by omega⟩
      rw [hm] at hc
      have HM := hid hm
      clear hm
      generalize M.getD j (0, 0) = p at p0 p1 RD hmp
      obtain ⟨mh, mc⟩ := p
      simp only at p0 p1 hmp
      have HW := hid hgw
      clear hgw
      by_cases e1 : mh = h
      · subst e1
        have HD := hid (dcr_hit (h := mh) (c := mc))
        rw [HD.out] at RD
        by_cases hz : (mc - 1) % 4294967296 = 0
        · have hz' : (mc - 1) % 4294967296 ≤ 0 := by omega
          have HZ := hid hz
          clear hz
          by_cases hm0 : m = 0
          · subst hm0
            go_wp2
            go_roundg (n - (j + 1))
            case measure => omega
            case rel =>
              have hM' := HM.out
              refine ⟨j + 1, by omega, by omega, rfl, rfl, ?_⟩
              exact next_go hpa hne hsz hM' HA'.out HR.out HG.out y0 y1 z0 z1 RD.out (some ⟨g, j * 2, none⟩) 0 _ rfl (fun h => by omega) HZ.out _ rfl
          · go_wp2
            go_roundg (n - (j + 1))
            case measure => omega
            case rel =>
              have hM' := HM.out
              refine ⟨j + 1, by omega, by omega, rfl, rfl, ?_⟩
              exact next_go hpa hne hsz hM' HA'.out HR.out HG.out y0 y1 z0 z1 RD.out (some ⟨g, j * 2 + 2, none⟩) m _ rfl (fun _ => by rw [show (j + 1) * 2 = j * 2 + 2 by omega]) HZ.out _ rfl
        · have hz' : 0 < (mc - 1) % 4294967296 := by omega
          have HZ := hid hz
          clear hz
          by_cases hm0 : m = 0
          · subst hm0
            go_wp2
            have hM' := HM.out
            refine bodyPost_ret (v := .tuple #[.agg #[.int .i32 mh, .int .u32 ((mc - 1) % 4294967296)], .bool true]) (by simp [results, Yba.results11, go_sem, y0, y1, hsz]) rfl ?_
            obtain ⟨r1, r2, r3⟩ := next_out (o := .cells #[.int .i32 mh, .int .u32 ((mc - 1) % 4294967296)] 45) hpa hne hgn hM' HA'.out HR.out HG.out RD.out (some ⟨g, j * 2, none⟩) 0 rfl (fun h => by omega) HZ.out
            exact ⟨r1, .inr ⟨j, mh, ((mc - 1) % 4294967296), hkj, hlt, rfl, r2, r3⟩⟩
          · go_wp2
            have hM' := HM.out
            refine bodyPost_ret (v := .tuple #[.agg #[.int .i32 mh, .int .u32 ((mc - 1) % 4294967296)], .bool true]) (by simp [results, Yba.results11, go_sem, y0, y1, hsz]) rfl ?_
            obtain ⟨r1, r2, r3⟩ := next_out (o := .cells #[.int .i32 mh, .int .u32 ((mc - 1) % 4294967296)] 45) hpa hne hgn hM' HA'.out HR.out HG.out RD.out (some ⟨g, j * 2 + 2, none⟩) m rfl (fun _ => by rw [show (j + 1) * 2 = j * 2 + 2 by omega]) HZ.out
            exact ⟨r1, .inr ⟨j, mh, ((mc - 1) % 4294967296), hkj, hlt, rfl, r2, r3⟩⟩
      · have b1 : (mh == h) = false := beq_eq_false_iff_ne.2 e1
        have HD := hid (dcr_miss (c := mc) e1)
        rw [HD.out] at RD
        clear e1
        by_cases hz : mc = 0
        · have hz' : mc ≤ 0 := by omega
          have HZ := hid hz
          clear hz
          by_cases hm0 : m = 0
          · subst hm0
            go_wp2
            go_roundg (n - (j + 1))
            case measure => omega
            case rel =>
              have hM' := HM.out
              refine ⟨j + 1, by omega, by omega, rfl, rfl, ?_⟩
              exact next_go hpa hne hsz hM' HA'.out HR.out HG.out y0 y1 z0 z1 RD.out (some ⟨g, j * 2, none⟩) 0 _ rfl (fun h => by omega) HZ.out _ rfl
          · go_wp2
            go_roundg (n - (j + 1))
            case measure => omega
            case rel =>
              have hM' := HM.out
              refine ⟨j + 1, by omega, by omega, rfl, rfl, ?_⟩
              exact next_go hpa hne hsz hM' HA'.out HR.out HG.out y0 y1 z0 z1 RD.out (some ⟨g, j * 2 + 2, none⟩) m _ rfl (fun _ => by rw [show (j + 1) * 2 = j * 2 + 2 by omega]) HZ.out _ rfl
        · have hz' : 0 < mc := by omega
          have HZ := hid hz
          clear hz
          by_cases hm0 : m = 0
          · subst hm0
            go_wp2
            have hM' := HM.out
            refine bodyPost_ret (v := .tuple #[.agg #[.int .i32 mh, .int .u32 mc], .bool true]) (by simp [results, Yba.results11, go_sem, y0, y1, hsz]) rfl ?_
            obtain ⟨r1, r2, r3⟩ := next_out (o := .cells #[.int .i32 mh, .int .u32 mc] 45) hpa hne hgn hM' HA'.out HR.out HG.out RD.out (some ⟨g, j * 2, none⟩) 0 rfl (fun h => by omega) HZ.out
            exact ⟨r1, .inr ⟨j, mh, mc, hkj, hlt, rfl, r2, r3⟩⟩
          · go_wp2
            have hM' := HM.out
            refine bodyPost_ret (v := .tuple #[.agg #[.int .i32 mh, .int .u32 mc], .bool true]) (by simp [results, Yba.results11, go_sem, y0, y1, hsz]) rfl ?_
            obtain ⟨r1, r2, r3⟩ := next_out (o := .cells #[.int .i32 mh, .int .u32 mc] 45) hpa hne hgn hM' HA'.out HR.out HG.out RD.out (some ⟨g, j * 2 + 2, none⟩) m rfl (fun _ => by rw [show (j + 1) * 2 = j * 2 + 2 by omega]) HZ.out
            exact ⟨r1, .inr ⟨j, mh, mc, hkj, hlt, rfl, r2, r3⟩⟩
    · have ej : n - j = 0 := by omega
      rw [ej] at hc
      clear ej
      go_wp2
      refine bodyPost_ret (v := .tuple #[.agg #[.int .i32 0, .int .u32 0], .bool false]) (by simp [results, Yba.results11, go_sem, y0, y1]) rfl ?_
      have ejn : j = n := by omega
      have hA1 := HA'.out
      rw [ejn] at hA1
      have hgw' : 0 < n → g ≠ w.heap.size := fun h0 => by have := hgw h0; omega
      refine ⟨grown_set (grown_set HG.out _ _ (.inr (Nat.le_refl _))) _ _ (.inr (Nat.le_refl _)), .inl ⟨rfl, ?_, ?_⟩⟩
      · rw [HR.out, List.drop_eq_nil_of_le (by rw [HA'.out.len]; omega)]; rfl
      · exact (hA1.setOther _ _ (by exact hpn') (fun h0 => by exact hgw' h0)).setOther _ _ (by exact hpn') (fun h0 => by exact hgw' h0)

end Go.Proofs.Ybulkdkas
