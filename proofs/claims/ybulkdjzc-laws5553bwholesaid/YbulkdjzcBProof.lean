import Derived.Test.YbulkdjzcRows
import Derived.Test.YbulkdjzcB2
import Derived.Test.YbulkdjzcOpen
import Derived.WalkKit
import Derived.ProofKit
import Derived.OpenShut
import Derived.ShutString
import Derived.ChangeOld
import Derived.Below
import Derived.SizedLaws
namespace Go.Proofs.Ybulkdjzc
open Go.ChangeShapes Go.WideShapes Go.ChangeAt Go.RowKit
open Go.ChangeMaps (open_string shut_string)
set_option linter.unusedVariables false

theorem own : ownKnob Yba.prog.godebug = none := by kernel_rfl
theorem laidOut : laidOutB Yba.prog = true := by kernel_rfl
theorem Yba.bytes43 : Yba.prog.bytesOf 43 = 32 := by kernel_rfl
theorem Yba.bytes5 : Yba.prog.bytesOf 5 = 1 := by kernel_rfl

theorem getD_mem (zs : List Int) (i : Nat) (h : i < zs.length) : zs.getD i 0 ∈ zs := by simp [List.getD, h]

set_option maxRecDepth 100000 in
theorem liftedB (os : Os) (started : os.Started) (H : Type) (enc : TypeId × Value → H) :
    ReturnsInHanded {} Yba.checked os 3 .any (Rows.lawS5553BWholeSpec.pre6 enc Yba.prog Yba.f3 Rows.lawS5553BWholeRow.domain false) (Rows.lawS5553BWholeSpec.post enc Yba.prog Yba.f3 false true false false) := by
  refine returnsInHanded_of_change_sized (C := Yba.checked) own started (by kernel_rfl) Yba.func3
    (ChangeSpec.witness6 (enc := enc) (C := Yba.checked) false ⟨#[], #[.slice none 0 0, .slice none 0 0], []⟩ 8 (by kernel_rfl) (by kernel_rfl) (by kernel_rfl) (by kernel_rfl)) ?_
  intro W base args ds gs before hval0 hW hcnd hsz0 _
  have hval : ∀ (j : Nat) t v, Yba.f3.params[j]? = some t → args[j]? = some v → Value.okWide Yba.prog W .any base t v := hval0
  have hW' := hW
  have hsz : (DataW.weightsEach Yba.prog (Yba.f3.params.toList ++ Rows.lawS5553BWholeSpec.plain.varTypes Yba.prog) (ds ++ gs)).all (· ≤ reachBytes) = true := hsz0
  obtain ⟨p, q, hA0, hV, rfl, hfz, hnd⟩ := hW
  have hA : DataW.TrodAll enc Yba.prog W 0 (fun _ => true) true Yba.f3.params.toList args.toList ds p := hA0
  rw [Yba.params3] at hA hval hsz
  obtain ⟨v0, vs0, d0, ds0, p0, q0, hargs, rfl, rfl, h0, r0⟩ := trodAll_cons hA
  obtain ⟨v1, vs1, d1, ds1, p1, q1, rfl, rfl, rfl, h1, r1⟩ := trodAll_cons r0
  obtain ⟨rfl, rfl, rfl⟩ := trodAll_nil r1
  obtain rfl : args = #[v0, v1] := by cases args; simp_all
  obtain ⟨rfl, rfl⟩ := trodVars_none hV
  obtain ⟨a0, l0, c0, rfl⟩ := okWide_slice Yba.underlying22 (hval 0 22 v0 rfl rfl)
  obtain ⟨a1, l1, c1, rfl⟩ := okWide_slice Yba.underlying23 (hval 1 23 v1 rfl rfl)
  have k0 := h0
  have k1 := h1
  have lt0 : ∀ x ∈ p0, x.block < W.heap.size := by obtain ⟨m, hm⟩ := k0; exact DataW.trod_lt m _ _ _ hm
  have lt1 : ∀ x ∈ p1, x.block < W.heap.size := by obtain ⟨m, hm⟩ := k1; exact DataW.trod_lt m _ _ _ hm
  have go : Calls Yba.prog 3 #[.slice a0 l0 c0, .slice a1 l1 c1] W fun e w' => e = .returned (.bool true) ∧ Below W.heap.size W w' := by
    clear hA0 hval0 hval hW' hV hfz hnd hA r0 r1 k0 k1 lt0 lt1
    obtain ⟨fuel0, hf0⟩ := h0
    obtain ⟨b0, o0, K, N, S, hm0, hpos0, _, hd0, hc0⟩ := open_vals Yba.underlying22 Yba.underlying43 (by kernel_rfl) rfl rfl rfl (by kernel_rfl) (by kernel_rfl) (by kernel_rfl) Yba.underlying41 Yba.underlying2 Yba.underlying9 (by simpa [Value.cells] using hf0)
    have hl0 : l0 ≤ 140737488355328 := by
      rcases hd0 with ⟨h, _⟩ | ⟨es, sp, he, hl⟩
      · omega
      · simp only at he
        subst he
        have := sized_slice hsz (j := 0) (t := 22) (e := 43) rfl rfl Yba.underlying22
        rw [Yba.bytes43] at this
        simp only [reachBytes] at this
        omega
    obtain ⟨b1, o1, Z, hl1, hix1, hb1, hc1⟩ : ∃ (b1 o1 : Nat) (Z : Nat → Int), l1 ≤ 140737488355328 ∧ (∀ c, c < l1 → ∀ w : World, (Instr.indexAt 23 (.slice a1 l1 c1) (.int .i64 (c : Int))).run Yba.prog w = .ok (.pointer (some ⟨b1, o1 + c, none⟩)) w) ∧
        (0 < l1 → b1 < W.heap.size) ∧ (∀ i, i < l1 → W.cell? ⟨b1, o1 + i, none⟩ = some (.int .u8 (Z i)) ∧ 0 ≤ Z i ∧ Z i ≤ 255) := by
      obtain ⟨fuel1, hf1⟩ := h1
      rcases open_ints Yba.underlying23 Yba.underlying5 (by kernel_rfl) hf1 with ⟨hcs, _⟩ | ⟨x, l, c, zs, hcs, _, hl, hm, hz, hx, hcell, hwz⟩
      · simp [Value.cells] at hcs
        obtain ⟨rfl, rfl, rfl⟩ := hcs
        exact ⟨0, 0, fun _ => 0, by omega, fun _ h => absurd h (by omega), fun h => absurd h (by omega), fun _ h => absurd h (by omega)⟩
      · simp [Value.cells] at hcs
        obtain ⟨rfl, rfl, rfl⟩ := hcs
        simp only [Prod.mk.injEq] at hx
        obtain ⟨rfl, _⟩ := hx
        have hsl := sized_slice hsz (j := 1) (t := 23) (e := 5) rfl rfl Yba.underlying23
        rw [Yba.bytes5] at hsl
        simp only [lits, List.length_map, List.length_take, List.length_drop, reachBytes] at hsl
        have hz' : zs.length = c1 := by simpa using hz
        have hlb : l1 ≤ 140737488355328 := by omega
        by_cases h0 : l1 = 0
        · exact ⟨0, 0, fun _ => 0, by omega, fun _ h => absurd h (by omega), fun h => absurd h (by omega), fun _ h => absurd h (by omega)⟩
        · obtain ⟨xb, xo, xs⟩ := x
          have hspot : xs = none := by simpa [Addr.add] using World.cell?_spot (hcell 0 (by omega))
          subst hspot
          refine ⟨xb, xo, fun i => zs.getD i 0, hlb, fun c hc w => ?_, fun _ => ?_, fun i hi => ?_⟩
          · simpa using run_index_n 23 5 1 Yba.underlying23 (by kernel_rfl) xb xo l1 c1 c hc w
          · have := hcell 0 (by omega)
            rw [addr_add] at this
            exact lt_of_cell this
          · have := hcell i (by omega)
            rw [addr_add] at this
            refine ⟨this, ?_⟩
            have hw := hwz (zs.getD i 0) (getD_mem zs i (by omega))
            exact bounds_u8 hw
    by_cases hbig : 1048576 < l0 + l1
    · exact walk_big a0 a1 l0 c0 l1 c1 W hl0 hl1 hbig
    · by_cases he : l0 = 0
      · subst he
        exact walk_empty a0 a1 c0 l1 c1 W (by omega)
      · obtain ⟨rfl, hb0⟩ := hpos0 (by omega)
        exact walk_pos a1 l0 c0 l1 c1 b0 o0 b1 o1 K N S Z W (by omega) (by omega) hb0 hb1 (fun i hi => (hc0 i hi).1) hix1 hc1
  clear hA0 hval0
  refine go.mono fun e W' ⟨he, bel⟩ => ?_
  subst he
  exact ⟨_, rfl, _, _, _, [], _, [], hW', trodAll_mk1 (shut_bool Yba.underlying4 _), (trodAll_cons_mk (Below.trod laidOut (by kernel_rfl) (of_decide_eq_true (by kernel_rfl)) k0 bel lt0) (trodAll_cons_mk (Below.trod laidOut (by kernel_rfl) (of_decide_eq_true (by kernel_rfl)) k1 bel lt1) trodAll_mk0)), rfl, bel.frame _, fun h => by cases h⟩

theorem overB : Rows.lawS5553BWholeRow.holds Yba.pinned (OpenSpec.ofChange Rows.lawS5553BWholeSpec) :=
  OpenClaim.holds_of_wide 3 Yba.f3 rfl rfl rfl rfl rfl rfl rfl ⟨rfl, rfl, rfl, rfl, rfl⟩ rfl rfl rfl rfl rfl (by kernel_rfl) Yba.func3 (by kernel_rfl)
    (of_decide_eq_true (by kernel_rfl)) (by unfold Func.isWrapper; first | (rw [if_pos (by decide +kernel)]; kernel_rfl) | (rw [if_neg (by decide +kernel)]; exact ⟨rfl, rfl⟩))
    (fun os started H enc _ => liftedB os started H enc)

/-- The statement. -/
theorem lawS5553BWhole_proved : Rows.LawS5553BWholeSaid := overB
end Go.Proofs.Ybulkdjzc
