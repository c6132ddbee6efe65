import Derived.Test.YbulkdkasB2
namespace Go.Proofs.Ybulkdkas
open Go.RowKit Go.Deep

/-- the two variables of equalUnticked -/
structure Two (w W : World) (pa pb ga gb la lb ka kb : Nat) (A B : List (Int × Int)) : Prop where
  bel : Below w.heap.size w W
  a : At W pa ga la ka A
  b : At W pb gb lb kb B
  da : w.heap.size ≤ pa
  db : w.heap.size ≤ pb
  dab : pa ≠ pb
  ga : 0 < la → ga < w.heap.size
  gb : 0 < lb → gb < w.heap.size

theorem Two.alloc {w W : World} {pa pb ga gb la lb ka kb : Nat} {A B : List (Int × Int)} (h : Two w W pa pb ga gb la lb ka kb A B) (o : Obj) : Two w (W.alloc o) pa pb ga gb la lb ka kb A B :=
  ⟨h.bel.alloc h.bel.size o, h.a.alloc o, h.b.alloc o, h.da, h.db, h.dab, h.ga, h.gb⟩
theorem Two.nextA {w W W' : World} {pa pb ga gb la lb ka kb : Nat} {A B : List (Int × Int)} (h : Two w W pa pb ga gb la lb ka kb A B) (hg : W.grownBy W' (some pa)) {k : Nat} (ha : At W' pa ga la k A) : Two w W' pa pb ga gb la lb k kb A B :=
  ⟨h.bel.grown hg h.bel.size (fun k hk => by simp at hk; have := h.da; omega), ha,
   h.b.other (hg.block _ h.b.lt (by have := h.dab; simp; omega)) (fun h0 => hg.block _ (h.b.row h0).lt (by have := h.da; have := h.gb h0; simp; omega)), h.da, h.db, h.dab, h.ga, h.gb⟩
theorem Two.nextB {w W W' : World} {pa pb ga gb la lb ka kb : Nat} {A B : List (Int × Int)} (h : Two w W pa pb ga gb la lb ka kb A B) (hg : W.grownBy W' (some pb)) {k : Nat} (hb : At W' pb gb lb k B) : Two w W' pa pb ga gb la lb ka k A B :=
  ⟨h.bel.grown hg h.bel.size (fun k hk => by simp at hk; have := h.db; omega),
   h.a.other (hg.block _ h.a.lt (by have := h.dab; simp; omega)) (fun h0 => hg.block _ (h.a.row h0).lt (by have := h.db; have := h.ga h0; simp; omega)), hb, h.da, h.db, h.dab, h.ga, h.gb⟩

theorem At.start {w : World} {pa g n : Nat} {M : List (Int × Int)} {ca : Option Addr} (hl : M.length = n) (hp : ∀ i, 0 ≤ (M.getD i (0, 0)).2) (hc : w.cell? ⟨pa, 0, none⟩ = some (.slice ca n n)) (hf : w.frozen? ⟨pa, 0, none⟩ = false) (h0 : 0 < n → ca = some ⟨g, 0, none⟩) (hr : 0 < n → w.rowIs g 45 (n * 2) (memF M)) : At w pa g n 0 M :=
  ⟨hl, Nat.zero_le _, hp, ⟨ca, hc, fun h => by simpa using h0 h⟩, hf, hr⟩

set_option maxHeartbeats 800000 in
theorem equ_any (ca cb : Option Addr) (la lb ga gb : Nat) (A B : List (Int × Int)) (ha hb : Int) (w : World) (hla : la ≤ 1048576) (hlb : lb ≤ 1048576)
    (hA : Clk w ca la ga A) (hB : Clk w cb lb gb B) (pA : ∀ i, 0 ≤ (A.getD i (0, 0)).2) (pB : ∀ i, 0 ≤ (B.getD i (0, 0)).2) :
    Calls Yba.prog 6 #[.slice ca la la, .int .i32 ha, .slice cb lb lb, .int .i32 hb] w fun e w' => e = .returned (.bool (decide (red ha A = red hb B))) ∧ Below w.heap.size w w' := by
  have T0 : Hid (Two w ((w.alloc (.cells #[.slice ca la la] 24)).alloc (.cells #[.slice cb lb lb] 24)) w.heap.size (w.heap.size + 1) ga gb la lb 0 0 A B) := by
    refine ⟨((Below.refl _ _).alloc (Nat.le_refl _) _).alloc (by simp) _, ?_, ?_, Nat.le_refl _, by omega, by omega, fun h0 => (hA.row h0).lt, fun h0 => (hB.row h0).lt⟩
    · exact At.start hA.len pA (by simp) (by simp) hA.at0 (fun h0 => ((hA.row h0).alloc _).alloc _)
    · exact At.start hB.len pB (by simp) (by simp) hB.at0 (fun h0 => ((hB.row h0).alloc _).alloc _)
  clear hA hB pA pB
  go_enter Yba.func6, Yba.ntmps6
  go_wp2
  go_loopg [8] (la + lb) (fun gk t wr => ∃ ka kb : Nat, gk = (la - ka) + (lb - kb) ∧ Hid (Two w wr w.heap.size (w.heap.size + 1) ga gb la lb ka kb A B) ∧ Hid (decide (red ha A = red hb B) = decide (red ha (A.drop ka) = red hb (B.drop kb))))
  case atStart => exact ⟨0, 0, rfl, T0, hid rfl⟩
  case round =>
    clear T0
    obtain ⟨ka, kb, rfl, T, HE⟩ := hrel
    go_wp2_with fail
    refine (next_any w.heap.size ga la ka ha A _ hla (by have := T.out.a.lt; exact this) (fun h0 => by have := T.out.ga h0; omega) T.out.a).mono ?_
    rintro e w1 ⟨hg1, hn1⟩
    rcases hn1 with ⟨rfl, hr1, hA1⟩ | ⟨ja, x1, y1, hka, hja, rfl, hr1, hA1⟩
    · have T1 := hid (T.out.nextA hg1 hA1)
      have HR1 := hid hr1
      clear hg1 hA1 T hr1
      go_wp2_with fail
      refine (next_any (w.heap.size + 1) gb lb kb hb B _ hlb (by have := (T1.out.alloc (.cells #[.int .i32 0, .int .u32 0] 45)).b.lt; exact this) (fun h0 => by have := T1.out.gb h0; omega) (T1.out.alloc _).b).mono ?_
      rintro e w2 ⟨hg2, hn2⟩
      rcases hn2 with ⟨rfl, hr2, hB2⟩ | ⟨jb, x2, y2, hkb, hjb, rfl, hr2, hB2⟩
      · have T2 := hid ((T1.out.alloc _).nextB hg2 hB2)
        have hD : decide (red ha A = red hb B) = true := by rw [HE.out, HR1.out, hr2]; simp
        have HD := hid hD
        clear hg2 hB2 hr2 hD
        go_wp2
        go_ret
        exact ⟨by rw [HD.out]; rfl, (T2.out.alloc _).bel⟩
      · have T2 := hid ((T1.out.alloc _).nextB hg2 hB2)
        have hD : decide (red ha A = red hb B) = false := by rw [HE.out, HR1.out, hr2]; simp
        have HD := hid hD
        clear hg2 hB2 hr2 hD
        go_wp2
        go_ret
        exact ⟨by rw [HD.out]; rfl, (T2.out.alloc _).bel⟩
    · have T1 := hid (T.out.nextA hg1 hA1)
      have HR1 := hid hr1
      clear hg1 hA1 T hr1
      go_wp2_with fail
      refine (next_any (w.heap.size + 1) gb lb kb hb B _ hlb (by have := (T1.out.alloc (.cells #[.int .i32 x1, .int .u32 y1] 45)).b.lt; exact this) (fun h0 => by have := T1.out.gb h0; omega) (T1.out.alloc _).b).mono ?_
      rintro e w2 ⟨hg2, hn2⟩
      rcases hn2 with ⟨rfl, hr2, hB2⟩ | ⟨jb, x2, y2, hkb, hjb, rfl, hr2, hB2⟩
      · have T2 := hid ((T1.out.alloc _).nextB hg2 hB2)
        have hD : decide (red ha A = red hb B) = false := by rw [HE.out, HR1.out, hr2]; simp
        have HD := hid hD
        clear hg2 hB2 hr2 hD
        go_wp2
        go_ret
        exact ⟨by rw [HD.out]; rfl, (T2.out.alloc _).bel⟩
      · have T2 := hid ((T1.out.alloc _).nextB hg2 hB2)
        have hsw : w1.heap.size < w2.heap.size := by have := hg2.size; simp at this; omega
        have hlt1 := T1.out.b.lt
        have hbk : w2.heap[w1.heap.size]? = (w1.alloc (.cells #[.int .i32 x1, .int .u32 y1] 45)).heap[w1.heap.size]? := hg2.block _ (by simp) (by simp; omega)
        have c0 : w2.cell? ⟨w1.heap.size, 0, none⟩ = some (.int .i32 x1) := (World.cell?_of_block (a := ⟨w1.heap.size, 0, none⟩) hbk).trans (by simp)
        have c1 : w2.cell? ⟨w1.heap.size, 1, none⟩ = some (.int .u32 y1) := (World.cell?_of_block (a := ⟨w1.heap.size, 1, none⟩) hbk).trans (by simp)
        have hD : decide (red ha A = red hb B) = decide ((x1, y1) = (x2, y2) ∧ red ha (A.drop (ja + 1)) = red hb (B.drop (jb + 1))) := by rw [HE.out, HR1.out, hr2]; simp only [List.cons.injEq]
        have HD := hid hD
        clear hg2 hB2 hr2 hD hbk hlt1 HR1 HE
        by_cases e1 : x1 = x2
        · subst e1
          by_cases e2 : y1 = y2
          · subst e2
            go_wp2
            go_roundg ((la - (ja + 1)) + (lb - (jb + 1)))
            case measure => omega
            case rel => exact ⟨ja + 1, jb + 1, rfl, hid (T2.out.alloc _), hid (by rw [HD.out]; simp)⟩
          · have b2 : (y1 == y2) = false := beq_eq_false_iff_ne.2 e2
            have HF := hid (HD.out.trans (decide_eq_false (fun h => e2 (congrArg Prod.snd h.1))))
            clear e2 HD
            go_wp2
            go_ret
            exact ⟨by rw [HF.out]; rfl, (T2.out.alloc _).bel⟩
        · have b1 : (x1 == x2) = false := beq_eq_false_iff_ne.2 e1
          have HF := hid (HD.out.trans (decide_eq_false (fun h => e1 (congrArg Prod.fst h.1))))
          clear e1 HD
          go_wp2
          go_ret
          exact ⟨by rw [HF.out]; rfl, (T2.out.alloc _).bel⟩

end Go.Proofs.Ybulkdkas
