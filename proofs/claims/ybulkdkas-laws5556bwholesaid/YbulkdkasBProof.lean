import Derived.Test.YbulkdkasRows
import Derived.Test.YbulkdkasB5
import Derived.WalkKit
import Derived.ProofKit
import Derived.OpenShut
import Derived.ShutString
import Derived.ChangeOld
import Derived.Below
import Derived.Deep.Slices
import Derived.Deep.SlicePairs
namespace Go.Proofs.Ybulkdkas
open Go.ChangeShapes Go.WideShapes Go.ChangeAt Go.RowKit Go.Deep
open Go.ChangeMaps (open_string shut_string)
set_option linter.unusedVariables false

theorem ownB : ownKnob Yba.prog.godebug = none := by kernel_rfl
theorem laidOutB' : laidOutB Yba.prog = true := by kernel_rfl

theorem lt_of_cellB {w : World} {b o : Nat} {v : Value} (h : w.cell? ⟨b, o, none⟩ = some v) : b < w.heap.size :=
  World.block_lt_of_cell? w ⟨b, o, none⟩ h

/-- a slice of members that came in, opened -/
theorem mems_of {H : Type} {enc : TypeId × Value → H} {w : World} {fuel : Nat} {ao : Option Addr} {l c : Nat} {x : DataW H × List MemPlace} (h : DataW.trod enc Yba.prog w 0 (fun _ => true) true fuel 22 [.slice ao l c] = some x) :
    ∃ b o M, l ≤ 9223372036854775807 ∧ MemsIn w 22 ao l c b o M ∧ (∀ i, 0 ≤ (M.getD i (0, 0)).2) ∧ (ao = none → l = 0 ∧ c = 0) := by
  have e0 : l = 0 → MemsIn w 22 ao l c 0 0 [] := fun e => ⟨e.symm, fun _ h => absurd h (by omega), fun h => absurd h (by omega), fun _ h => absurd h (by omega), fun _ h => absurd h (by omega)⟩
  rcases open_slice_pairs Yba.underlying22 Yba.underlying43 (by kernel_rfl) rfl rfl (by kernel_rfl) (by kernel_rfl) h with ⟨hcs, _⟩ | ⟨a, l', c', m, n, V0, V1, D0, D1, P0, P1, hcs, _, hl, hm, hmm, _, hx⟩
  · simp at hcs
    obtain ⟨rfl, rfl, rfl⟩ := hcs
    exact ⟨0, 0, [], by omega, e0 rfl, by simp, fun _ => ⟨rfl, rfl⟩⟩
  · simp at hcs
    obtain ⟨rfl, rfl, rfl⟩ := hcs
    have hm' : m = c := by simpa using hmm
    have hmx : c ≤ 9223372036854775807 := by simpa [maxLen] using hm
    by_cases h0 : l = 0
    · exact ⟨0, 0, [], by omega, e0 h0, by simp, fun h => by simp at h⟩
    · have each : ∀ i, i < l → ∃ t : Int × Int, V0 i = .int .i32 t.1 ∧ V1 i = .int .u32 t.2 ∧ 0 ≤ t.2 := fun i hi => by
        obtain ⟨_, _, g0, g1⟩ := hx i (by omega)
        obtain ⟨n0, hv0, _, _⟩ := DataW.trod_int Yba.underlying21 g0
        obtain ⟨n1, hv1, _, wf1⟩ := DataW.trod_int Yba.underlying41 g1
        simp at hv0 hv1
        exact ⟨(n0, n1), hv0, hv1, (bounds_u32 wf1).1⟩
      obtain ⟨T, hT⟩ := choose_lt each
      obtain ⟨xb, xo, xs⟩ := a
      have hspot : xs = none := by simpa [Addr.add] using World.cell?_spot (hx 0 (by omega)).1
      subst hspot
      have hg : ∀ i, i < l → ((List.range l).map T).getD i (0, 0) = T i := fun i hi => by simp [List.getD, hi]
      refine ⟨xb, xo, (List.range l).map T, by omega, ⟨by simp, fun k hk W => run_index_n 22 43 2 Yba.underlying22 (by kernel_rfl) xb xo l c k hk W, fun _ => ?_, fun k hk => ?_, fun k hk => ?_⟩, fun i => ?_, fun h => by simp at h⟩
      · have := (hx 0 (by omega)).1
        rw [addr_add] at this
        exact lt_of_cellB this
      · have := (hx k (by omega)).1
        rw [addr_add, (hT k hk).1] at this
        rw [hg k hk]; exact this
      · have := (hx k (by omega)).2.1
        rw [addr_add, (hT k hk).2.1] at this
        rw [hg k hk]; simpa [Nat.add_assoc] using this
      · by_cases hi : i < l
        · rw [hg i hi]; exact (hT i hi).2.2
        · simp [List.getD, hi]

set_option maxRecDepth 100000 in
theorem liftedB (os : Os) (started : os.Started) (H : Type) (enc : TypeId × Value → H) :
    ReturnsInHanded {} Yba.checked os 3 .any (Rows.lawS5556BWholeSpec.pre6 enc Yba.prog Yba.f3 Rows.lawS5556BWholeRow.domain false) (Rows.lawS5556BWholeSpec.post enc Yba.prog Yba.f3 false true false false) := by
  refine returnsInHanded_of_change (C := Yba.checked) ownB started (by kernel_rfl) Yba.func3
    (ChangeSpec.witness6 (enc := enc) (C := Yba.checked) false ⟨#[], #[.slice none 0 0, .int .i32 0, .slice none 0 0, .int .i32 0, .bool false], []⟩ 8 (by kernel_rfl) (by kernel_rfl) (by kernel_rfl) (by kernel_rfl)) ?_
  intro W base args ds gs before hval0 hW hcnd _
  have hval : ∀ (j : Nat) t v, Yba.f3.params[j]? = some t → args[j]? = some v → Value.okWide Yba.prog W .any base t v := hval0
  have hW' := hW
  obtain ⟨p, q, hA0, hV, rfl, hfz, hnd⟩ := hW
  have hA : DataW.TrodAll enc Yba.prog W 0 (fun _ => true) true Yba.f3.params.toList args.toList ds p := hA0
  rw [Yba.params3] at hA hval
  obtain ⟨v0, vs0, d0, ds0, p0, q0, hargs, rfl, rfl, h0, r0⟩ := trodAll_cons hA
  obtain ⟨v1, vs1, d1, ds1, p1, q1, rfl, rfl, rfl, h1, r1⟩ := trodAll_cons r0
  obtain ⟨v2, vs2, d2, ds2, p2, q2, rfl, rfl, rfl, h2, r2⟩ := trodAll_cons r1
  obtain ⟨v3, vs3, d3, ds3, p3, q3, rfl, rfl, rfl, h3, r3⟩ := trodAll_cons r2
  obtain ⟨v4, vs4, d4, ds4, p4, q4, rfl, rfl, rfl, h4, r4⟩ := trodAll_cons r3
  obtain ⟨rfl, rfl, rfl⟩ := trodAll_nil r4
  obtain rfl : args = #[v0, v1, v2, v3, v4] := by cases args; simp_all
  obtain ⟨rfl, rfl⟩ := trodVars_none hV
  obtain ⟨a0, l0, c0, rfl⟩ := okWide_slice Yba.underlying22 (hval 0 22 v0 rfl rfl)
  obtain ⟨ha, rfl, rfl, rfl, wha⟩ := open_int Yba.underlying21 (hval 1 21 v1 rfl rfl) h1
  obtain ⟨a1, l1, c1, rfl⟩ := okWide_slice Yba.underlying22 (hval 2 22 v2 rfl rfl)
  obtain ⟨hb, rfl, rfl, rfl, whb⟩ := open_int Yba.underlying21 (hval 3 21 v3 rfl rfl) h3
  obtain ⟨mir, rfl, rfl, rfl⟩ := open_bool Yba.underlying4 (hval 4 4 v4 rfl rfl) h4
  have k0 := h0
  have k2 := h2
  have lt0 : ∀ x ∈ p0, x.block < W.heap.size := by obtain ⟨m, hm⟩ := k0; exact DataW.trod_lt m _ _ _ hm
  have lt2 : ∀ x ∈ p2, x.block < W.heap.size := by obtain ⟨m, hm⟩ := k2; exact DataW.trod_lt m _ _ _ hm
  have go : Calls Yba.prog 3 #[.slice a0 l0 c0, .int .i32 ha, .slice a1 l1 c1, .int .i32 hb, .bool mir] W fun e w' => e = .returned (.bool true) ∧ Below W.heap.size W w' := by
    clear hA0 hval0 hval hW' hV hfz hnd hA r0 r1 r2 r3 r4 k0 k2 lt0 lt2
    obtain ⟨f0, hf0⟩ := h0
    obtain ⟨f2, hf2⟩ := h2
    obtain ⟨b0, o0, A, m0, hin0, pA, nA⟩ := mems_of (by simpa [Value.cells] using hf0)
    obtain ⟨b1, o1, B, m1, hin1, pB, nB⟩ := mems_of (by simpa [Value.cells] using hf2)
    by_cases hbig : 1048576 < l0 ∨ 1048576 < l1
    · exact walkB_big a0 a1 l0 c0 l1 c1 ha hb mir W m0 m1 hbig
    · cases mir with
      | true => exact walkB_mirror a0 a1 l0 c0 b0 o0 l1 c1 A ha hb W (by omega) (by omega) hin0 pA nA
      | false => exact walkB_two a0 a1 l0 c0 b0 o0 l1 c1 A b1 o1 B ha hb W (by omega) (by omega) hin0 pA nA hin1 pB nB
  clear hA0 hval0
  refine go.mono fun e W' ⟨he, bel⟩ => ?_
  subst he
  exact ⟨_, rfl, _, _, _, [], _, [], hW', trodAll_mk1 (shut_bool Yba.underlying4 _), (trodAll_cons_mk (Below.trod laidOutB' (by kernel_rfl) (of_decide_eq_true (by kernel_rfl)) k0 bel lt0) (trodAll_cons_mk (shut_int Yba.underlying21 wha) (trodAll_cons_mk (Below.trod laidOutB' (by kernel_rfl) (of_decide_eq_true (by kernel_rfl)) k2 bel lt2) (trodAll_cons_mk (shut_int Yba.underlying21 whb) (trodAll_cons_mk (shut_bool Yba.underlying4 _) trodAll_mk0))))), rfl, bel.frame _, fun h => by cases h⟩

theorem overB : Rows.lawS5556BWholeRow.holds Yba.pinned (OpenSpec.ofChange Rows.lawS5556BWholeSpec) :=
  OpenClaim.holds_of_wide 3 Yba.f3 rfl rfl rfl rfl rfl rfl rfl ⟨rfl, rfl, rfl, rfl, rfl⟩ rfl rfl rfl rfl rfl (by kernel_rfl) Yba.func3 (by kernel_rfl)
    (of_decide_eq_true (by kernel_rfl)) (by unfold Func.isWrapper; first | (rw [if_pos (by decide +kernel)]; kernel_rfl) | (rw [if_neg (by decide +kernel)]; exact ⟨rfl, rfl⟩))
    (fun os started H enc _ => liftedB os started H enc)

/-- The statement. -/
theorem lawS5556BWhole_proved : Rows.LawS5556BWholeSaid := overB
end Go.Proofs.Ybulkdkas
