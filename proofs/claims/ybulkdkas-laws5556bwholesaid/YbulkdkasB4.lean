import Derived.Test.YbulkdkasB3
namespace Go.Proofs.Ybulkdkas
open Go.RowKit Go.Deep

def cellsOf (L : List (Int × Int)) : List Value := L.flatMap (fun p => [.int .i32 p.1, .int .u32 p.2])
theorem cellsOf_snoc (L : List (Int × Int)) (x y : Int) : cellsOf (L ++ [(x, y)]) = cellsOf L ++ [.int .i32 x, .int .u32 y] := by simp [cellsOf]
theorem cellsOf_len (L : List (Int × Int)) : (cellsOf L).length = L.length * 2 := by
  induction L with
  | nil => rfl
  | cons p t ih => simp only [cellsOf, List.flatMap_cons, List.length_append, List.length_cons, List.length_nil] at ih ⊢; omega
theorem cellsOf_get (L : List (Int × Int)) : ∀ i, i < L.length → (cellsOf L)[i * 2]? = some (.int .i32 (L.getD i (0, 0)).1) ∧ (cellsOf L)[i * 2 + 1]? = some (.int .u32 (L.getD i (0, 0)).2) := by
  induction L with
  | nil => intro i hi; simp at hi
  | cons p t ih =>
    intro i hi
    cases i with
    | zero => simp [cellsOf]
    | succ i =>
      obtain ⟨h1, h2⟩ := ih i (by simpa using hi)
      have e : cellsOf (p :: t) = .int .i32 p.1 :: .int .u32 p.2 :: cellsOf t := by simp [cellsOf]
      rw [e, show (i + 1) * 2 = i * 2 + 1 + 1 by omega]
      simp only [List.getElem?_cons_succ]
      exact ⟨by simpa using h1, by simpa using h2⟩

theorem mems_of_own {w : World} {base : Nat} {v : Value} {n : Nat} {L : List (Int × Int)} (h : w.ownsRow base 45 2 v n (cellsOf L)) (hn : L.length = n) : ∃ ca c g, v = .slice ca n c ∧ MemsIn w 23 ca n c g 0 L := by
  rcases h.2 with ⟨rfl, rfl⟩ | ⟨g, cap, cur, rfl, hb, hg, hnc, hm, hs, ht⟩
  · exact ⟨none, 0, 0, rfl, hn, fun _ h => absurd h (by omega), fun h => absurd h (by omega), fun _ h => absurd h (by omega), fun _ h => absurd h (by omega)⟩
  · have hlt : g < w.heap.size := (Array.getElem?_eq_some_iff.1 hg).1
    refine ⟨some ⟨g, 0, none⟩, cap, g, rfl, hn, fun k hk W => run_index_n 23 45 2 Yba.underlying23 (by kernel_rfl) g 0 n cap k hk W, fun _ => hlt, fun k hk => ?_, fun k hk => ?_⟩
    · rw [Nat.zero_add, h.cellAt (k * 2) (by omega)]
      exact (cellsOf_get L k (by omega)).1
    · rw [Nat.zero_add, h.cellAt (k * 2 + 1) (by omega)]
      exact (cellsOf_get L k (by omega)).2

theorem two_src (w : World) (x y : Int) (g : Nat) (hg : g = w.heap.size) : ∀ (j : Nat) (u : Value), ([.int .i32 x, .int .u32 y] : List Value)[j]? = some u → (w.alloc (.cells #[.int .i32 x, .int .u32 y] 45)).cell? ((⟨g, 0, none⟩ : Addr).add j) = some u := by
  subst hg
  intro j u hj
  rw [addr_add]
  match j, hj with
  | 0, hj => simp at hj; subst hj; simp
  | 1, hj => simp at hj; subst hj; simp

theorem lt_of_lt_of_le' {a b c : Nat} (h : a < b) (h2 : b ≤ c) : a < c := by omega
theorem red_close {w wr w1 : World} {v v' : Value} {k : Nat} {h x y : Int} {M : List (Int × Int)} {o : Obj} (hbel : Below w.heap.size w wr) (hown : wr.ownsRow w.heap.size 45 2 v (red h (M.take k)).length (cellsOf (red h (M.take k))))
    (hown' : w1.ownsRow w.heap.size 45 2 v' ((red h (M.take k)).length + 1) (cellsOf (red h (M.take k)) ++ [.int .i32 x, .int .u32 y])) (hgrow : (wr.alloc o).grownBy w1 v.ownBlock)
    (hrd : red h (M.take (k + 1)) = red h (M.take k) ++ (if y = 0 then [] else [(x, y)])) (hy : y ≠ 0) : Below w.heap.size w w1 ∧ Hid (w1.ownsRow w.heap.size 45 2 v' (red h (M.take (k + 1))).length (cellsOf (red h (M.take (k + 1))))) := by
  rw [if_neg hy] at hrd
  refine ⟨(hbel.alloc hbel.size o).grown hgrow (by have := hbel.size; simp; omega) (fun k hk => (hown.lt k hk).1), ?_⟩
  rw [hrd, cellsOf_snoc, List.length_append]
  exact hown'

set_option maxHeartbeats 800000 in
theorem reduce_any (ao : Option Addr) (l c b o : Nat) (h : Int) (M : List (Int × Int)) (w : World) (hl : l ≤ 1048576) (hin : MemsIn w 22 ao l c b o M) (hp : ∀ i, 0 ≤ (M.getD i (0, 0)).2) :
    Calls Yba.prog 8 #[.slice ao l c, .int .i32 h] w fun e w' => (∃ ca c' g, e = .returned (.slice ca (red h M).length c') ∧ MemsIn w' 23 ca (red h M).length c' g 0 (red h M)) ∧ Below w.heap.size w w' := by
  have HI := hid hin
  have HP := hid hp
  clear hin hp
  obtain ⟨i0, hi, hz0, hz1, hz2⟩ := info_parts Yba.info45
  have F1 := hid hi
  have F2 := hid hz0
  have F3 := hid hz1
  have F4 := hid hz2
  clear hi hz0 hz1 hz2
  go_enter Yba.func8, Yba.ntmps8
  go_wp2
  go_loopw [5, 6] (fun v i wr => ∃ k : Nat, k ≤ l ∧ i = .int .i64 k ∧ Below w.heap.size w wr ∧ Hid (wr.ownsRow w.heap.size 45 2 v (red h (M.take k)).length (cellsOf (red h (M.take k))))) (fun _ i _ => l - (intOf i).toNat)
  case atStart => exact ⟨0, Nat.zero_le _, rfl, (Below.refl _ _).alloc (Nat.le_refl _) _, hid (World.ownsRow_lit w #[] 0 (Nat.le_refl _) (by unfold maxLen; omega) rfl)⟩
  case round =>
    obtain ⟨k, hk, rfl, hbel, hown⟩ := hrel
    by_cases hlt : k < l
    · have hi := HI.out.ix k hlt
      have hbw := HI.out.lt (by omega)
      have p0 := (hbel.cell (p := ⟨b, o + k * 2, none⟩) (by exact hbw)).trans (HI.out.c0 k hlt)
      have p1 := (hbel.cell (p := ⟨b, o + k * 2 + 1, none⟩) (by exact hbw)).trans (HI.out.c1 k hlt)
      have hmp := HP.out k
      have RD := hid (red_take (h := h) (M := M) (k := k) (by rw [HI.out.len]; exact hlt))
      have hlen : (red h (M.take k)).length ≤ k := by have := red_len h (M.take k); simp at this; omega
      have hbz := lt_of_lt_of_le' hbw hbel.size
      generalize M.getD k (0, 0) = p at p0 p1 RD hmp
      obtain ⟨mh, mc⟩ := p
      simp only at p0 p1 hmp
      by_cases e1 : mh = h
      · subst e1
        rw [dcr_hit] at RD
        by_cases hz : (mc - 1) % 4294967296 = 0
        · have bz : ((mc - 1) % 4294967296 != 0) = false := by rw [hz]; rfl
          have HZ := hid hz
          clear hz
          go_wp2
          go_roundw
          case rel => exact ⟨k + 1, by omega, by go_num, hbel, by rw [RD.out, if_pos HZ.out, List.append_nil]; exact hown⟩
          case measure => simp [intOf]; omega
        · have bz : ((mc - 1) % 4294967296 != 0) = true := by rw [bne_iff_ne]; exact hz
          have HZ := hid hz
          clear hz
          go_wp2_with (at_builtin; refine wpList_append_own _ rfl (.tmp 31) (.tmp 39) 23 rfl w.heap.size 45 i0 (.agg #[.int .i32 0, .int .u32 0]) 2 8 Yba.underlying23 F1.out F2.out F3.out F4.out rfl (by decide) _ _ _ rfl (hown.out.alloc _) ⟨wr.heap.size, 0, none⟩ 1 1 [.int .i32 mh, .int .u32 ((mc - 1) % 4294967296)] rfl rfl (two_src _ _ _ _ rfl) (by intro u hu; simp at hu; rcases hu with rfl | rfl <;> rfl) (by unfold maxLen; omega) (by omega) (by have := hbel.size; simp; omega) ?_; intro v' w1 hown' hgrow _)
          have R := red_close hbel hown.out hown' hgrow RD.out HZ.out
          clear hown' hgrow hown
          go_wp2
          go_roundw
          case rel => exact ⟨k + 1, by omega, by go_num, R.1, R.2⟩
          case measure => simp [intOf]; omega
      · have b1 : (mh == h) = false := beq_eq_false_iff_ne.2 e1
        rw [dcr_miss e1] at RD
        clear e1
        by_cases hz : mc = 0
        · have bz : (mc != 0) = false := by rw [hz]; rfl
          have HZ := hid hz
          clear hz
          go_wp2
          go_roundw
          case rel => exact ⟨k + 1, by omega, by go_num, hbel, by rw [RD.out, if_pos HZ.out, List.append_nil]; exact hown⟩
          case measure => simp [intOf]; omega
        · have bz : (mc != 0) = true := by rw [bne_iff_ne]; exact hz
          have HZ := hid hz
          clear hz
          go_wp2_with (at_builtin; refine wpList_append_own _ rfl (.tmp 31) (.tmp 39) 23 rfl w.heap.size 45 i0 (.agg #[.int .i32 0, .int .u32 0]) 2 8 Yba.underlying23 F1.out F2.out F3.out F4.out rfl (by decide) _ _ _ rfl (hown.out.alloc _) ⟨wr.heap.size, 0, none⟩ 1 1 [.int .i32 mh, .int .u32 mc] rfl rfl (two_src _ _ _ _ rfl) (by intro u hu; simp at hu; rcases hu with rfl | rfl <;> rfl) (by unfold maxLen; omega) (by omega) (by have := hbel.size; simp; omega) ?_; intro v' w1 hown' hgrow _)
          have R := red_close hbel hown.out hown' hgrow RD.out HZ.out
          clear hown' hgrow hown
          go_wp2
          go_roundw
          case rel => exact ⟨k + 1, by omega, by go_num, R.1, R.2⟩
          case measure => simp [intOf]; omega
    · have et : M.take k = M := List.take_of_length_le (by rw [HI.out.len]; omega)
      rw [et] at hown
      obtain ⟨ca, c', g, hv, hm⟩ := mems_of_own hown.out rfl
      subst hv
      have HM := hid hm
      clear hown hm et
      go_wp2
      go_ret
      exact ⟨⟨ca, c', g, rfl, HM.out⟩, hbel⟩

end Go.Proofs.Ybulkdkas
