/- The proof of 'Rows.LawS5558ADecodeSaid': the given frame, the walk out of YbulkdkbuW2. -/
import Derived.Test.YbulkdkbuRows
import Derived.Test.YbulkdkbuW2
import Derived.WalkKit
import Derived.ProofKit
import Derived.OpenShut
import Derived.ShutString
import Derived.ChangeOld
import Derived.Below
namespace Go.Proofs.Ybulkdkbu
namespace LawADecode
open Go.ChangeShapes Go.WideShapes Go.ChangeAt Go.RowKit
open Go.ChangeMaps (open_string shut_string)
set_option linter.unusedVariables false

theorem own : ownKnob Yba.prog.godebug = none := by kernel_rfl
theorem laidOut : laidOutB Yba.prog = true := by kernel_rfl

/-- WHAT THE WALK IS TOLD OF A SLICE OF INTEGERS THAT CAME IN: it is nil; or it leads to a row of 'cap' cells, the numbers 'zs' (the first 'len' are its elements, the rest its spare room), each fitting its kind. -/
def IsRow (k : IntKind) (w : World) (a : Option Addr) (len cap : Nat) (zs : List Int) : Prop :=
  (a = none ∧ len = 0 ∧ cap = 0 ∧ zs = []) ∨
  ∃ x, a = some x ∧ len ≤ cap ∧ cap ≤ maxLen ∧ zs.length = cap ∧ (∀ i, i < zs.length → w.cell? (x.add i) = some (.int k (zs.getD i 0))) ∧ ∀ n ∈ zs, (Lit.int k n).wf = true

theorem walk (a0 : Int) (a1 : Option Addr) (len1 cap1 : Nat) (z1 : List Int) (w : World) (w0 : (Lit.int .i64 a0).wf = true) (w1 : IsRow .i64 w a1 len1 cap1 z1) :
    Calls Yba.prog 4 #[.int .i64 a0, .slice a1 len1 cap1] w fun e w' => e = .returned (.bool true) ∧ Below w.heap.size w w' := by
  have key : ∃ b o, len1 ≤ 9223372036854775807 ∧ (0 < len1 → b < w.heap.size) ∧ (∀ k, k < len1 → ∀ w : World, (Instr.indexAt 28 (.slice a1 len1 cap1) (.int .i64 (k : Int))).run Yba.prog w = .ok (.pointer (some ⟨b, o + k, none⟩)) w) ∧
      ∀ k, k < len1 → w.cell? ⟨b, o + k, none⟩ = some (.int .i64 (z1.getD k 0)) ∧ -9223372036854775808 ≤ z1.getD k 0 ∧ z1.getD k 0 ≤ 9223372036854775807 := by
    rcases w1 with ⟨rfl, rfl, rfl, rfl⟩ | ⟨x, rfl, hlc, hm, hz, hcell, hw⟩
    · exact ⟨0, 0, by omega, fun h => absurd h (by omega), fun _ h => absurd h (by omega), fun _ h => absurd h (by omega)⟩
    · have hmx : cap1 ≤ 9223372036854775807 := by simpa [maxLen] using hm
      by_cases h0 : len1 = 0
      · exact ⟨0, 0, by omega, fun h => absurd h (by omega), fun _ h => absurd h (by omega), fun _ h => absurd h (by omega)⟩
      · obtain ⟨xb, xo, xs⟩ := x
        have hspot : xs = none := by simpa [Addr.add] using World.cell?_spot (hcell 0 (by omega))
        subst hspot
        have hc' : ∀ k, k < z1.length → w.cell? ⟨xb, xo + k, none⟩ = some (.int .i64 (z1.getD k 0)) := fun k hk => by rw [← add_plain]; exact hcell k hk
        refine ⟨xb, xo, by omega, fun _ => World.block_lt_of_cell? w _ (hc' 0 (by omega)), fun k hk W => ?_, fun k hk => ⟨hc' k (by omega), ?_⟩⟩
        · have he : Yba.prog.elem 28 = 2 := by simp [Program.elem, Yba.underlying28]
          rw [run_indexAt_slice W 28 ⟨xb, xo, none⟩ len1 cap1 .i64 k (by rw [he]; exact Yba.underlying28), if_pos ⟨by omega, by omega⟩, he]
          have hs : (sizeOf 2).run Yba.prog W = .ok 1 W := by kernel_rfl
          rw [hs]
          simp [Result.andThen, add_plain]
        · exact bounds_i64 (hw _ (by simp [List.getD, show k < z1.length by omega]))
  obtain ⟨b, o, hl, hb, hix, hc⟩ := key
  by_cases hbig : 1048576 < len1
  · exact dec_big a0 a1 len1 cap1 w hl hbig
  · exact dec_walk a0 a1 len1 cap1 b o (fun k => z1.getD k 0) w (by omega) hb hix hc

/-! ### THE ROW's STEP: WRITTEN OUT: LEAVE IT -/
set_option maxRecDepth 100000 in
theorem lifted (os : Os) (started : os.Started) (H : Type) (enc : TypeId × Value → H) :
    ReturnsInHanded {} Yba.checked os 4 .any (Rows.lawS5558ADecodeSpec.pre6 enc Yba.prog Yba.f4 Rows.lawS5558ADecodeRow.domain false) (Rows.lawS5558ADecodeSpec.post enc Yba.prog Yba.f4 false true false false) := by
  refine returnsInHanded_of_change (C := Yba.checked) own started (by kernel_rfl) Yba.func4
    (ChangeSpec.witness6 (enc := enc) (C := Yba.checked) false ⟨#[], #[.int .i64 0, .slice none 0 0], []⟩ 8 (by kernel_rfl) (by kernel_rfl) (by kernel_rfl) (by kernel_rfl)) ?_
  intro W base args ds gs before hval0 hW hcnd _
  have hval : ∀ (j : Nat) t v, Yba.f4.params[j]? = some t → args[j]? = some v → Value.okWide Yba.prog W .any base t v := hval0
  have hW' := hW
  obtain ⟨p, q, hA0, hV, rfl, hfz, hnd⟩ := hW
  have hA : DataW.TrodAll enc Yba.prog W 0 (fun _ => true) true Yba.f4.params.toList args.toList ds p := hA0
  rw [Yba.params4] at hA hval
  obtain ⟨v0, vs0, d0, ds0, p0, q0, hargs, rfl, rfl, h0, r0⟩ := trodAll_cons hA
  obtain ⟨v1, vs1, d1, ds1, p1, q1, rfl, rfl, rfl, h1, r1⟩ := trodAll_cons r0
  obtain ⟨rfl, rfl, rfl⟩ := trodAll_nil r1
  obtain rfl : args = #[v0, v1] := by cases args; simp_all
  obtain ⟨rfl, rfl⟩ := trodVars_none hV
  obtain ⟨a0, rfl, rfl, rfl, w0⟩ := open_int Yba.underlying2 (hval 0 2 v0 rfl rfl) h0
  obtain ⟨a1, len1, cap1, rfl⟩ := okWide_slice Yba.underlying28 (hval 1 28 v1 rfl rfl)
  have k1 := h1
  have lt1 : ∀ x ∈ p1, x.block < W.heap.size := by obtain ⟨m, hm⟩ := k1; exact DataW.trod_lt m _ _ _ hm
  obtain ⟨z1, w1⟩ : ∃ zs, IsRow .i64 W a1 len1 cap1 zs := by
    obtain ⟨fuel, hf⟩ := h1
    rcases open_ints Yba.underlying28 Yba.underlying2 (by kernel_rfl) hf with ⟨hcs, _⟩ | ⟨x, l, c, zs, hcs, _, hl, hm, hz, _, hcell, hwz⟩
    · simp [Value.cells] at hcs
      obtain ⟨rfl, rfl, rfl⟩ := hcs
      exact ⟨[], .inl ⟨rfl, rfl, rfl, rfl⟩⟩
    · simp [Value.cells] at hcs
      obtain ⟨rfl, rfl, rfl⟩ := hcs
      exact ⟨zs, .inr ⟨_, rfl, hl, hm, by simpa using hz, hcell, hwz⟩⟩
  clear hA0 hval0
  refine (walk a0 a1 len1 cap1 z1 W w0 w1).mono fun e W' ⟨he, bel⟩ => ?_
  subst he
  exact ⟨_, rfl, _, _, _, [], _, [], hW', trodAll_mk1 (shut_bool Yba.underlying4 _), (trodAll_cons_mk (shut_int Yba.underlying2 w0) (trodAll_cons_mk (Below.trod laidOut (by kernel_rfl) (of_decide_eq_true (by kernel_rfl)) k1 bel lt1) trodAll_mk0)), rfl, bel.frame _, fun h => by cases h⟩

theorem over : Rows.lawS5558ADecodeRow.holds Yba.pinned (OpenSpec.ofChange Rows.lawS5558ADecodeSpec) :=
  OpenClaim.holds_of_wide 4 Yba.f4 rfl rfl rfl rfl rfl rfl rfl ⟨rfl, rfl, rfl, rfl, rfl⟩ rfl rfl rfl rfl rfl (by kernel_rfl) Yba.func4 (by kernel_rfl)
    (of_decide_eq_true (by kernel_rfl)) (by unfold Func.isWrapper; first | (rw [if_pos (by decide +kernel)]; kernel_rfl) | (rw [if_neg (by decide +kernel)]; exact ⟨rfl, rfl⟩))
    (fun os started H enc _ => lifted os started H enc)

end LawADecode

/-- The statement. -/
theorem lawS5558ADecode_proved : Rows.LawS5558ADecodeSaid := LawADecode.over
end Go.Proofs.Ybulkdkbu
