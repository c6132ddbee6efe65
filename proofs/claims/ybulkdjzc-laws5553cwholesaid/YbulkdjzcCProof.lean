import Derived.Test.YbulkdjzcRows
import Derived.Test.YbulkdjzcC3
import Derived.Test.YbulkdjzcOpen
import Derived.WalkKit
import Derived.ProofKit
import Derived.OpenShut
import Derived.ShutString
import Derived.ChangeOld
import Derived.Below
namespace Go.Proofs.Ybulkdjzc
open Go.ChangeShapes Go.WideShapes Go.ChangeAt Go.RowKit
open Go.ChangeMaps (open_string shut_string)
set_option linter.unusedVariables false

theorem ownC : ownKnob Yba.prog.godebug = none := by kernel_rfl
theorem laidOutC : laidOutB Yba.prog = true := by kernel_rfl

set_option maxRecDepth 100000 in
theorem liftedC (os : Os) (started : os.Started) (H : Type) (enc : TypeId × Value → H) :
    ReturnsInHanded {} Yba.checked os 4 .any (Rows.lawS5553CWholeSpec.pre6 enc Yba.prog Yba.f4 Rows.lawS5553CWholeRow.domain false) (Rows.lawS5553CWholeSpec.post enc Yba.prog Yba.f4 false true false false) := by
  refine returnsInHanded_of_change (C := Yba.checked) ownC started (by kernel_rfl) Yba.func4
    (ChangeSpec.witness6 (enc := enc) (C := Yba.checked) false ⟨#[], #[.slice none 0 0, .bool false], []⟩ 8 (by kernel_rfl) (by kernel_rfl) (by kernel_rfl) (by kernel_rfl)) ?_
  intro W base args ds gs before hval0 hW hcnd _
  have hval : ∀ (j : Nat) t v, Yba.f4.params[j]? = some t → args[j]? = some v → Value.okWide Yba.prog W .any base t v := hval0
  have hW' := hW
  obtain ⟨p, q, hA0, hV, rfl, hfz, hnd⟩ := hW
  have hA : DataW.TrodAll enc Yba.prog W 0 (fun _ => true) true Yba.f4.params.toList args.toList ds p := hA0
  rw [Yba.params4] at hA hval
  obtain ⟨v0, vs0, d0, ds0, p0, q0, hargs, rfl, rfl, h0, r0⟩ := trodAll_cons hA
  obtain ⟨v1, vs1, d1, ds1, p1, q1, rfl, rfl, rfl, h1, r1⟩ := trodAll_cons r0
  obtain ⟨rfl, rfl, rfl⟩ := trodAll_nil r1
  obtain rfl : args = #[v0, v1] := by cases args; simp_all
  obtain ⟨rfl, rfl⟩ := trodVars_none hV
  obtain ⟨a0, l0, c0, rfl⟩ := okWide_slice Yba.underlying45 (hval 0 45 v0 rfl rfl)
  obtain ⟨nr, rfl, rfl, rfl⟩ := open_bool Yba.underlying4 (hval 1 4 v1 rfl rfl) h1
  have k0 := h0
  have lt0 : ∀ x ∈ p0, x.block < W.heap.size := by obtain ⟨m, hm⟩ := k0; exact DataW.trod_lt m _ _ _ hm
  have go : Calls Yba.prog 4 #[.slice a0 l0 c0, .bool nr] W fun e w' => e = .returned (.bool true) ∧ Below W.heap.size W w' := by
    clear hA0 hval0 hval hW' hV hfz hnd hA r0 r1 k0 lt0
    obtain ⟨fuel0, hf0⟩ := h0
    obtain ⟨b0, o0, K, N, S, hm0, hpos0, _, hd0, hc0⟩ := open_vals Yba.underlying45 Yba.underlying59 (by kernel_rfl) rfl rfl rfl (by kernel_rfl) (by kernel_rfl) (by kernel_rfl) Yba.underlying5 Yba.underlying2 Yba.underlying9 (by simpa [Value.cells] using hf0)
    by_cases hbig : 1048576 < l0
    · exact walkC_big a0 l0 c0 nr W (by simpa [maxLen] using hm0) hbig
    · cases nr with
      | true => exact walkC_nil a0 l0 c0 W (by omega)
      | false =>
        refine walkC_row a0 l0 c0 b0 o0 K N S W (by omega) (fun c hc w => ?_) (fun h => (hpos0 h).2) (fun i hi => (hc0 i hi).1) (fun i hi => bounds_u8 (hc0 i hi).2.1)
        obtain ⟨rfl, _⟩ := hpos0 (by omega)
        exact run_index_n 45 59 3 Yba.underlying45 (by kernel_rfl) b0 o0 l0 c0 c hc w
  clear hA0 hval0
  refine go.mono fun e W' ⟨he, bel⟩ => ?_
  subst he
  exact ⟨_, rfl, _, _, _, [], _, [], hW', trodAll_mk1 (shut_bool Yba.underlying4 _), (trodAll_cons_mk (Below.trod laidOutC (by kernel_rfl) (of_decide_eq_true (by kernel_rfl)) k0 bel lt0) (trodAll_cons_mk (shut_bool Yba.underlying4 _) trodAll_mk0)), rfl, bel.frame _, fun h => by cases h⟩

theorem overC : Rows.lawS5553CWholeRow.holds Yba.pinned (OpenSpec.ofChange Rows.lawS5553CWholeSpec) :=
  OpenClaim.holds_of_wide 4 Yba.f4 rfl rfl rfl rfl rfl rfl rfl ⟨rfl, rfl, rfl, rfl, rfl⟩ rfl rfl rfl rfl rfl (by kernel_rfl) Yba.func4 (by kernel_rfl)
    (of_decide_eq_true (by kernel_rfl)) (by unfold Func.isWrapper; first | (rw [if_pos (by decide +kernel)]; kernel_rfl) | (rw [if_neg (by decide +kernel)]; exact ⟨rfl, rfl⟩))
    (fun os started H enc _ => liftedC os started H enc)

/-- The statement. -/
theorem lawS5553CWhole_proved : Rows.LawS5553CWholeSaid := overC
end Go.Proofs.Ybulkdjzc
