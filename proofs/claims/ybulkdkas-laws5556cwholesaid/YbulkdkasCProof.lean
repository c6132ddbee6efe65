import Derived.Test.YbulkdkasRows
import Derived.Test.YbulkdkasC2
import Derived.WalkKit
import Derived.ProofKit
import Derived.OpenShut
import Derived.ShutString
import Derived.ChangeOld
import Derived.Below
import Derived.Deep.Slices
namespace Go.Proofs.Ybulkdkas
open Go.ChangeShapes Go.WideShapes Go.ChangeAt Go.RowKit Go.Deep
open Go.ChangeMaps (open_string shut_string)
set_option linter.unusedVariables false

theorem ownC : ownKnob Yba.prog.godebug = none := by kernel_rfl
theorem laidOutC : laidOutB Yba.prog = true := by kernel_rfl

theorem lt_of_cell {w : World} {b o : Nat} {v : Value} (h : w.cell? ⟨b, o, none⟩ = some v) : b < w.heap.size := by
  unfold World.cell? at h
  simp at h
  split at h
  · rename_i hq
    exact (Array.getElem?_eq_some_iff.1 hq).1
  · simp at h

/-- a slice of bytes that came in, opened -/
theorem byt_of {H : Type} {enc : TypeId × Value → H} {w : World} {fuel : Nat} {v : Value} {x : DataW H × List MemPlace} (h : DataW.trod enc Yba.prog w 0 (fun _ => true) true fuel 32 [v] = some x) : ∃ a n c, v = .slice a n c ∧ Byt w (.slice a n c) := by
  rcases open_ints Yba.underlying32 Yba.underlying5 (by kernel_rfl) h with ⟨hcs, _⟩ | ⟨a, l, c, zs, hcs, _, hl, hm, hz, _, hcell, _⟩
  · simp at hcs
    exact ⟨none, 0, 0, hcs, byt_nil w⟩
  · simp at hcs
    refine ⟨some a, l, c, hcs, some a, l, c, rfl, ?_⟩
    by_cases h0 : l = 0
    · exact .inl h0
    · obtain ⟨xb, xo, xs⟩ := a
      have hz' : zs.length = c := by simpa using hz
      have hspot : xs = none := by simpa [Addr.add] using World.cell?_spot (hcell 0 (by omega))
      subst hspot
      refine .inr ⟨xb, xo, zs.take l, rfl, ?_, by simp; omega, fun i hi => ?_⟩
      · have := hcell 0 (by omega)
        rw [addr_add] at this
        exact lt_of_cell this
      · have := hcell i (by omega)
        rw [addr_add] at this
        rw [this]
        congr 2
        simp [List.getD, hi]

set_option maxRecDepth 100000 in
theorem liftedC (os : Os) (started : os.Started) (H : Type) (enc : TypeId × Value → H) :
    ReturnsInHanded {} Yba.checked os 4 .any (Rows.lawS5556CWholeSpec.pre6 enc Yba.prog Yba.f4 Rows.lawS5556CWholeRow.domain false) (Rows.lawS5556CWholeSpec.post enc Yba.prog Yba.f4 false true false false) := by
  refine returnsInHanded_of_change (C := Yba.checked) ownC started (by kernel_rfl) Yba.func4
    (ChangeSpec.witness6 (enc := enc) (C := Yba.checked) false ⟨#[], #[.slice none 0 0, .slice none 0 0, .int .u8 0, .slice none 0 0, .int .u64 0], []⟩ 8 (by kernel_rfl) (by kernel_rfl) (by kernel_rfl) (by kernel_rfl)) ?_
  intro W base args ds gs before hval0 hW hcnd _
  have hval : ∀ (j : Nat) t v, Yba.f4.params[j]? = some t → args[j]? = some v → Value.okWide Yba.prog W .any base t v := hval0
  have hW' := hW
  obtain ⟨p, q, hA0, hV, rfl, hfz, hnd⟩ := hW
  have hA : DataW.TrodAll enc Yba.prog W 0 (fun _ => true) true Yba.f4.params.toList args.toList ds p := hA0
  rw [Yba.params4] at hA hval
  obtain ⟨v0, vs0, d0, ds0, p0, q0, hargs, rfl, rfl, h0, r0⟩ := trodAll_cons hA
  obtain ⟨v1, vs1, d1, ds1, p1, q1, rfl, rfl, rfl, h1, r1⟩ := trodAll_cons r0
  obtain ⟨v2, vs2, d2, ds2, p2, q2, rfl, rfl, rfl, h2, r2⟩ := trodAll_cons r1
  obtain ⟨v3, vs3, d3, ds3, p3, q3, rfl, rfl, rfl, h3, r3⟩ := trodAll_cons r2
  obtain ⟨v4, vs4, d4, ds4, p4, q4, rfl, rfl, rfl, h4, r4⟩ := trodAll_cons r3
  obtain ⟨rfl, rfl, rfl⟩ := trodAll_nil r4
  obtain rfl : args = #[v0, v1, v2, v3, v4] := by cases args; simp_all
  obtain ⟨rfl, rfl⟩ := trodVars_none hV
  obtain ⟨a0, l0, c0, rfl⟩ := okWide_slice Yba.underlying30 (hval 0 30 v0 rfl rfl)
  obtain ⟨a1, l1, c1, rfl⟩ := okWide_slice Yba.underlying31 (hval 1 31 v1 rfl rfl)
  obtain ⟨rm, rfl, rfl, rfl, wrm⟩ := open_int Yba.underlying5 (hval 2 5 v2 rfl rfl) h2
  obtain ⟨ae, le, ce, rfl⟩ := okWide_slice Yba.underlying32 (hval 3 32 v3 rfl rfl)
  obtain ⟨ec, rfl, rfl, rfl, wec⟩ := open_int Yba.underlying33 (hval 4 33 v4 rfl rfl) h4
  have k0 := h0
  have k1 := h1
  have k3 := h3
  have lt0 : ∀ x ∈ p0, x.block < W.heap.size := by obtain ⟨m, hm⟩ := k0; exact DataW.trod_lt m _ _ _ hm
  have lt1 : ∀ x ∈ p1, x.block < W.heap.size := by obtain ⟨m, hm⟩ := k1; exact DataW.trod_lt m _ _ _ hm
  have lt3 : ∀ x ∈ p3, x.block < W.heap.size := by obtain ⟨m, hm⟩ := k3; exact DataW.trod_lt m _ _ _ hm
  have go : Calls Yba.prog 4 #[.slice a0 l0 c0, .slice a1 l1 c1, .int .u8 rm, .slice ae le ce, .int .u64 ec] W fun e w' => e = .returned (.bool true) ∧ Below W.heap.size W w' := by
    clear hA0 hval0 hval hW' hV hfz hnd hA r0 r1 r2 r3 r4 k0 k1 k3 lt0 lt1 lt3
    have bye : Byt W (.slice ae le ce) := by
      obtain ⟨fuel, hf⟩ := h3
      obtain ⟨a, n, c, hv, hb⟩ := byt_of (v := .slice ae le ce) (by simpa [Value.cells] using hf)
      rw [hv]; exact hb
    obtain ⟨b1, o1, Z, hm1, ix1, lt1, cl1⟩ : ∃ (b1 o1 : Nat) (Z : Nat → Int), l1 ≤ 9223372036854775807 ∧ (∀ k, k < l1 → ∀ w : World, (Instr.indexAt 31 (.slice a1 l1 c1) (.int .i64 (k : Int))).run Yba.prog w = .ok (.pointer (some ⟨b1, o1 + k, none⟩)) w) ∧
        (0 < l1 → b1 < W.heap.size) ∧ (∀ k, k < l1 → W.cell? ⟨b1, o1 + k, none⟩ = some (.int .u64 (Z k))) := by
      obtain ⟨fuel1, hf1⟩ := h1
      rcases open_ints Yba.underlying31 Yba.underlying33 (by kernel_rfl) hf1 with ⟨hcs, _⟩ | ⟨x, l, c, zs, hcs, _, hl, hm, hz, _, hcell, _⟩
      · simp [Value.cells] at hcs
        obtain ⟨rfl, rfl, rfl⟩ := hcs
        exact ⟨0, 0, fun _ => 0, by omega, fun _ h => absurd h (by omega), fun h => absurd h (by omega), fun _ h => absurd h (by omega)⟩
      · simp [Value.cells] at hcs
        obtain ⟨rfl, rfl, rfl⟩ := hcs
        have hz' : zs.length = c1 := by simpa using hz
        have hmm : c1 ≤ 9223372036854775807 := by simpa [maxLen] using hm
        by_cases h0 : l1 = 0
        · exact ⟨0, 0, fun _ => 0, by omega, fun _ h => absurd h (by omega), fun h => absurd h (by omega), fun _ h => absurd h (by omega)⟩
        · obtain ⟨xb, xo, xs⟩ := x
          have hspot : xs = none := by simpa [Addr.add] using World.cell?_spot (hcell 0 (by omega))
          subst hspot
          refine ⟨xb, xo, fun i => zs.getD i 0, by omega, fun k hk w => ?_, fun _ => ?_, fun i hi => ?_⟩
          · simpa using run_index_n 31 33 1 Yba.underlying31 (by kernel_rfl) xb xo l1 c1 k hk w
          · have := hcell 0 (by omega)
            rw [addr_add] at this
            exact lt_of_cell this
          · have := hcell i (by omega)
            rw [addr_add] at this
            exact this
    obtain ⟨b0, o0, A, L, C, hm0, ix0, lt0, cl0, by0⟩ : ∃ (b0 o0 : Nat) (A : Nat → Option Addr) (L C : Nat → Nat), l0 ≤ 9223372036854775807 ∧ (∀ k, k < l0 → ∀ w : World, (Instr.indexAt 30 (.slice a0 l0 c0) (.int .i64 (k : Int))).run Yba.prog w = .ok (.pointer (some ⟨b0, o0 + k, none⟩)) w) ∧
        (0 < l0 → b0 < W.heap.size) ∧ (∀ k, k < l0 → W.cell? ⟨b0, o0 + k, none⟩ = some (.slice (A k) (L k) (C k))) ∧ (∀ k, k < l0 → Byt W (.slice (A k) (L k) (C k))) := by
      obtain ⟨fuel0, hf0⟩ := h0
      have e0 : l0 = 0 → l0 ≤ 9223372036854775807 → ∃ (b0 o0 : Nat) (A : Nat → Option Addr) (L C : Nat → Nat), l0 ≤ 9223372036854775807 ∧ (∀ k, k < l0 → ∀ w : World, (Instr.indexAt 30 (.slice a0 l0 c0) (.int .i64 (k : Int))).run Yba.prog w = .ok (.pointer (some ⟨b0, o0 + k, none⟩)) w) ∧
        (0 < l0 → b0 < W.heap.size) ∧ (∀ k, k < l0 → W.cell? ⟨b0, o0 + k, none⟩ = some (.slice (A k) (L k) (C k))) ∧ (∀ k, k < l0 → Byt W (.slice (A k) (L k) (C k))) :=
        fun e hle => ⟨0, 0, fun _ => none, fun _ => 0, fun _ => 0, hle, fun _ h => absurd h (by omega), fun h => absurd h (by omega), fun _ h => absurd h (by omega), fun _ h => absurd h (by omega)⟩
      rcases open_slice1 Yba.underlying30 (by kernel_rfl) hf0 with ⟨hcs, _⟩ | ⟨x, l, c, m, n, V, D, Pl, hcs, _, hl, hm, hmm, _, hx⟩
      · simp [Value.cells] at hcs
        exact e0 hcs.2.1 (by omega)
      · simp [Value.cells] at hcs
        obtain ⟨rfl, rfl, rfl⟩ := hcs
        have hm' : m = c0 := by simpa using hmm
        have hmx : c0 ≤ 9223372036854775807 := by simpa [maxLen] using hm
        by_cases h0 : l0 = 0
        · exact e0 h0 (by omega)
        · have each : ∀ i, i < l0 → ∃ t : Option Addr × Nat × Nat, V i = .slice t.1 t.2.1 t.2.2 ∧ Byt W (.slice t.1 t.2.1 t.2.2) := fun i hi => by
            obtain ⟨a, n, c, hv, hb⟩ := byt_of (hx i (by omega)).2
            exact ⟨(a, n, c), hv, hb⟩
          obtain ⟨T, hT⟩ := choose_lt each
          obtain ⟨xb, xo, xs⟩ := x
          have hspot : xs = none := by simpa [Addr.add] using World.cell?_spot (hx 0 (by omega)).1
          subst hspot
          refine ⟨xb, xo, fun i => (T i).1, fun i => (T i).2.1, fun i => (T i).2.2, by omega, fun k hk w => ?_, fun _ => ?_, fun i hi => ?_, fun i hi => (hT i hi).2⟩
          · simpa using run_index_n 30 32 1 Yba.underlying30 (by kernel_rfl) xb xo l0 c0 k hk w
          · have := (hx 0 (by omega)).1
            rw [addr_add] at this
            exact lt_of_cell this
          · have := (hx i (by omega)).1
            rw [addr_add] at this
            rw [this, (hT i hi).1]
    by_cases hbig : 65536 < l1
    · exact walk_big a0 a1 l0 c0 l1 c1 rm ae le ce ec W hm1 hbig
    · have hb := bounds_u8 wrm
      exact walk_all a0 a1 l0 c0 b0 o0 l1 c1 b1 o1 A L C Z rm ae le ce ec W hm0 (by omega) hb.1 hb.2 (rm % 3).toNat (by omega) (by omega) ⟨ix0, lt0, cl0, by0, ix1, lt1, cl1, bye⟩
  clear hA0 hval0
  refine go.mono fun e W' ⟨he, bel⟩ => ?_
  subst he
  exact ⟨_, rfl, _, _, _, [], _, [], hW', trodAll_mk1 (shut_bool Yba.underlying4 _), (trodAll_cons_mk (Below.trod laidOutC (by kernel_rfl) (of_decide_eq_true (by kernel_rfl)) k0 bel lt0) (trodAll_cons_mk (Below.trod laidOutC (by kernel_rfl) (of_decide_eq_true (by kernel_rfl)) k1 bel lt1) (trodAll_cons_mk (shut_int Yba.underlying5 wrm) (trodAll_cons_mk (Below.trod laidOutC (by kernel_rfl) (of_decide_eq_true (by kernel_rfl)) k3 bel lt3) (trodAll_cons_mk (shut_int Yba.underlying33 wec) trodAll_mk0))))), rfl, bel.frame _, fun h => by cases h⟩

theorem overC : Rows.lawS5556CWholeRow.holds Yba.pinned (OpenSpec.ofChange Rows.lawS5556CWholeSpec) :=
  OpenClaim.holds_of_wide 4 Yba.f4 rfl rfl rfl rfl rfl rfl rfl ⟨rfl, rfl, rfl, rfl, rfl⟩ rfl rfl rfl rfl rfl (by kernel_rfl) Yba.func4 (by kernel_rfl)
    (of_decide_eq_true (by kernel_rfl)) (by unfold Func.isWrapper; first | (rw [if_pos (by decide +kernel)]; kernel_rfl) | (rw [if_neg (by decide +kernel)]; exact ⟨rfl, rfl⟩))
    (fun os started H enc _ => liftedC os started H enc)

/-- The statement. -/
theorem lawS5556CWhole_proved : Rows.LawS5556CWholeSaid := overC
end Go.Proofs.Ybulkdkas
