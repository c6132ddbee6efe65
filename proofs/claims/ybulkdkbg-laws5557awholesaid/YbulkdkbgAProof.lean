import Derived.Test.YbulkdkbgRows
import Derived.Test.YbulkdkbgL1
import Derived.WalkKit
import Derived.ProofKit
import Derived.OpenShut
import Derived.ShutString
import Derived.ChangeArms
import Derived.ChangeOld
import Derived.Below
import Derived.SizedLaws
import Derived.Deep.Slices
import Derived.Deep.SlicePairs
import Derived.Deep.Strs
namespace Go.Proofs.Ybulkdkbg
open Go.ChangeShapes Go.WideShapes Go.ChangeAt Go.RowKit Go.Deep
open Go.ChangeMaps (open_string shut_string)
set_option linter.unusedVariables false

theorem ownA : ownKnob Yba.prog.godebug = none := by kernel_rfl
theorem laidOutA : laidOutB Yba.prog = true := by kernel_rfl
theorem bytes25 : Yba.prog.bytesOf 25 = 56 := by kernel_rfl

theorem lt_of_cellA {w : World} {b o : Nat} {v : Value} (h : w.cell? ⟨b, o, none⟩ = some v) : b < w.heap.size :=
  World.block_lt_of_cell? w ⟨b, o, none⟩ h

/-- one member's reports, opened -/
structure FilesAt (w : World) (v : Value) (fa : Option Addr) (fl fc fb fo : Nat) (fn : Nat → ByteArray) (fk : Nat → Bool) : Prop where
  val : v = .slice fa fl fc
  fx : ∀ j, j < fl → ∀ w : World, (Instr.indexAt 23 (.slice fa fl fc) (.int .i64 (j : Int))).run Yba.prog w = .ok (.pointer (some ⟨fb, fo + j * 2, none⟩)) w
  ft : 0 < fl → fb < w.heap.size
  f0 : ∀ j, j < fl → w.cell? ⟨fb, fo + j * 2, none⟩ = some (.string (fn j))
  f1 : ∀ j, j < fl → w.cell? ⟨fb, fo + j * 2 + 1, none⟩ = some (.bool (fk j))
  fm : fl ≤ 9223372036854775807

theorem files_of {H : Type} {enc : TypeId × Value → H} {w : World} {fuel : Nat} {v : Value} {x : DataW H × List MemPlace} (h : DataW.trod enc Yba.prog w 0 (fun _ => true) true fuel 23 [v] = some x) :
    ∃ fa fl fc fb fo fn fk, FilesAt w v fa fl fc fb fo fn fk := by
  rcases open_slice_pairs Yba.underlying23 Yba.underlying63 (by kernel_rfl) rfl rfl (by kernel_rfl) (by kernel_rfl) h with ⟨hcs, _⟩ | ⟨a, l, c, m, n, V0, V1, D0, D1, P0, P1, hcs, _, hl, hm, hmm, _, hx⟩
  · simp at hcs
    subst hcs
    exact ⟨none, 0, 0, 0, 0, fun _ => ByteArray.empty, fun _ => false, rfl, fun _ h => absurd h (by omega), fun h => absurd h (by omega), fun _ h => absurd h (by omega), fun _ h => absurd h (by omega), by omega⟩
  · simp at hcs
    subst hcs
    have hm' : m = c := by simpa using hmm
    have hmx : c ≤ 9223372036854775807 := by simpa [maxLen] using hm
    by_cases h0 : l = 0
    · subst h0
      exact ⟨_, _, _, 0, 0, fun _ => ByteArray.empty, fun _ => false, rfl, fun _ h => absurd h (by omega), fun h => absurd h (by omega), fun _ h => absurd h (by omega), fun _ h => absurd h (by omega), by omega⟩
    · have each : ∀ i, i < l → ∃ t : ByteArray × Bool, V0 i = .string t.1 ∧ V1 i = .bool t.2 := fun i hi => by
        obtain ⟨_, _, g0, g1⟩ := hx i (by omega)
        obtain ⟨s0, hv0, _, _⟩ := DataW.trod_string Yba.underlying9 g0
        obtain ⟨b1, hv1, _⟩ := DataW.trod_bool Yba.underlying4 g1
        simp at hv0 hv1
        exact ⟨(s0, b1), hv0, hv1⟩
      obtain ⟨T, hT⟩ := choose_lt each
      obtain ⟨xb, xo, xs⟩ := a
      have hspot : xs = none := by simpa [Addr.add] using World.cell?_spot (hx 0 (by omega)).1
      subst hspot
      refine ⟨_, l, c, xb, xo, fun i => (T i).1, fun i => (T i).2, rfl, fun k hk W => run_index_n 23 63 2 Yba.underlying23 (by kernel_rfl) xb xo l c k hk W, fun _ => ?_, fun k hk => ?_, fun k hk => ?_, by omega⟩
      · have := (hx 0 (by omega)).1
        rw [addr_add] at this
        exact lt_of_cellA this
      · have := (hx k (by omega)).1
        rw [addr_add, (hT k hk).1] at this
        exact this
      · have := (hx k (by omega)).2.1
        rw [addr_add, (hT k hk).2] at this
        simpa [Nat.add_assoc] using this

abbrev Rec := ByteArray × Int × Bool × Option Addr × Nat × Nat × Nat × Nat × (Nat → ByteArray) × (Nat → Bool)

theorem struct4 {H : Type} {enc : TypeId × Value → H} {P : Program} {w : World} {base : Nat} {spare : Nat → Bool} {held : Bool} {t : TypeId} {f0 f1 f2 f3 : Field} {fuel : Nat} {cs : List Value} {x : DataW H × List MemPlace} (ht : P.underlying t = some (.struct #[f0, f1, f2, f3])) (h : DataW.trod enc P w base spare held fuel t cs = some x) :
    ∃ y0 y1 y2 y3 n, DataW.trod enc P w base spare held n f0.type ((cs.drop f0.offset).take (P.cellsOf f0.type)) = some y0 ∧ DataW.trod enc P w base spare held n f1.type ((cs.drop f1.offset).take (P.cellsOf f1.type)) = some y1 ∧
      DataW.trod enc P w base spare held n f2.type ((cs.drop f2.offset).take (P.cellsOf f2.type)) = some y2 ∧ DataW.trod enc P w base spare held n f3.type ((cs.drop f3.offset).take (P.cellsOf f3.type)) = some y3 := by
  obtain ⟨xs, n, _, rfl, hl, hlen, hf⟩ := DataW.trod_struct ht h
  match xs, hlen with
  | [y0, y1, y2, y3], _ => exact ⟨y0, y1, y2, y3, n, by simpa using hf 0 f0 rfl, by simpa using hf 1 f1 rfl, by simpa using hf 2 f2 rfl, by simpa using hf 3 f3 rfl⟩

theorem list4 {α : Type} {l : List α} (h : l.length = 4) : ∃ a b c d, l = [a, b, c, d] := by
  match l, h with
  | [a, b, c, d], _ => exact ⟨a, b, c, d, rfl⟩

theorem cells25 : Yba.prog.cellsOf 25 = 4 := by kernel_rfl
theorem cells9 : Yba.prog.cellsOf 9 = 1 := by kernel_rfl
theorem cells2 : Yba.prog.cellsOf 2 = 1 := by kernel_rfl
theorem cells4 : Yba.prog.cellsOf 4 = 1 := by kernel_rfl
theorem cells23 : Yba.prog.cellsOf 23 = 1 := by kernel_rfl

/-- the slice of members that came in, opened -/
theorem ms_of {H : Type} {enc : TypeId × Value → H} {w : World} {fuel : Nat} {ao : Option Addr} {l c : Nat} {x : DataW H × List MemPlace} (h : DataW.trod enc Yba.prog w 0 (fun _ => true) true fuel 22 [.slice ao l c] = some x)
    (hl0 : ∀ es sp, x.1 = .slice es sp → (es.length + sp.length) * 56 ≤ reachBytes) : ∃ b o D, MsIn w ao l c b o D := by
  have e0 : l = 0 → ∃ b o D, MsIn w ao l c b o D := fun e => ⟨0, 0, ⟨fun _ => ByteArray.empty, fun _ => 0, fun _ => false, fun _ => none, fun _ => 0, fun _ => 0, fun _ => 0, fun _ => 0, fun _ _ => ByteArray.empty, fun _ _ => false⟩,
    by omega, fun _ h => absurd h (by omega), fun h => absurd h (by omega), fun _ h => absurd h (by omega), fun _ h => absurd h (by omega), fun _ h => absurd h (by omega), fun _ h => absurd h (by omega), fun _ h => absurd h (by omega), fun _ h => absurd h (by omega),
    fun _ h => absurd h (by omega), fun _ h => absurd h (by omega), fun _ h => absurd h (by omega), fun _ h => absurd h (by omega)⟩
  rcases open_slice Yba.underlying22 h with ⟨hcs, rfl⟩ | ⟨a, len', cap', m, n, D, Pl, hcs, hb, hl, hm, hmm, rfl, hx⟩
  · simp at hcs
    exact e0 hcs.2.1
  · simp at hcs
    obtain ⟨rfl, rfl, rfl⟩ := hcs
    by_cases h0 : l = 0
    · exact e0 h0
    · have hlm : m = c := by simpa using hmm
      have hbd := hl0 _ _ rfl
      simp only [List.length_map, List.length_range, reachBytes] at hbd
      have each : ∀ i, i < l → ∃ q : Rec, w.cell? (a.add (i * 4)) = some (.string q.1) ∧ w.cell? (a.add (i * 4 + 1)) = some (.int .i64 q.2.1) ∧ w.cell? (a.add (i * 4 + 2)) = some (.bool q.2.2.1) ∧
          w.cell? (a.add (i * 4 + 3)) = some (.slice q.2.2.2.1 q.2.2.2.2.1 q.2.2.2.2.2.1) ∧ (Lit.int .i64 q.2.1).wf = true ∧ FilesAt w (.slice q.2.2.2.1 q.2.2.2.2.1 q.2.2.2.2.2.1) q.2.2.2.1 q.2.2.2.2.1 q.2.2.2.2.2.1 q.2.2.2.2.2.2.1 q.2.2.2.2.2.2.2.1 q.2.2.2.2.2.2.2.2.1 q.2.2.2.2.2.2.2.2.2 := by
        intro i hi
        obtain ⟨cs', h1, h2⟩ := hx i (by omega)
        rw [cells25] at h1
        obtain ⟨_, hlen, hcell⟩ := World.cells?_some h1
        obtain ⟨y0, y1, y2, y3, k, g0, g1, g2, g3⟩ := struct4 Yba.underlying25 h2
        obtain ⟨v0, v1, v2, v3, rfl⟩ := list4 hlen
        simp [cells9, cells2, cells4, cells23] at g0 g1 g2 g3
        obtain ⟨s0, hv0, _, _⟩ := DataW.trod_string Yba.underlying9 g0
        obtain ⟨n1, hv1, _, wf1⟩ := DataW.trod_int Yba.underlying2 g1
        obtain ⟨b2, hv2, _⟩ := DataW.trod_bool Yba.underlying4 g2
        obtain ⟨fa, fl, fc, fb, fo, fn, fk, F⟩ := files_of g3
        have hv3 := F.val
        simp at hv0 hv1 hv2
        subst hv3
        have e0 := hcell 0 (by omega)
        have e1 := hcell 1 (by omega)
        have e2 := hcell 2 (by omega)
        have e3 := hcell 3 (by omega)
        rw [add_add] at e0 e1 e2 e3
        exact ⟨(s0, n1, b2, fa, fl, fc, fb, fo, fn, fk), by simpa [hv0] using e0, by simpa [hv1] using e1, by simpa [hv2] using e2, by simpa using e3, wf1, F⟩
      obtain ⟨q, hq⟩ := choose_lt each
      obtain ⟨ab, aoff, asp⟩ := a
      have hspot : asp = none := by simpa [Addr.add] using World.cell?_spot (hq 0 (by omega)).1
      subst hspot
      refine ⟨ab, aoff, ⟨fun i => (q i).1, fun i => (q i).2.1, fun i => (q i).2.2.1, fun i => (q i).2.2.2.1, fun i => (q i).2.2.2.2.1, fun i => (q i).2.2.2.2.2.1, fun i => (q i).2.2.2.2.2.2.1, fun i => (q i).2.2.2.2.2.2.2.1, fun i => (q i).2.2.2.2.2.2.2.2.1, fun i => (q i).2.2.2.2.2.2.2.2.2⟩, by omega, fun k hk W => run_index_n 22 25 4 Yba.underlying22 (by kernel_rfl) ab aoff l c k hk W, fun _ => ?_, fun k hk => ?_, fun k hk => ?_, fun k hk => ?_, fun k hk => ?_, fun k hk => bounds_i64 (hq k hk).2.2.2.2.1, fun k hk => (hq k hk).2.2.2.2.2.fx, fun k hk => (hq k hk).2.2.2.2.2.ft, fun k hk => (hq k hk).2.2.2.2.2.f0, fun k hk => (hq k hk).2.2.2.2.2.f1, fun k hk => (hq k hk).2.2.2.2.2.fm⟩
      · have := (hq 0 (by omega)).1
        rw [addr_add] at this
        exact lt_of_cellA this
      · have := (hq k hk).1
        rw [addr_add] at this
        exact this
      · have := (hq k hk).2.1
        rw [addr_add] at this
        simpa [Nat.add_assoc] using this
      · have := (hq k hk).2.2.1
        rw [addr_add] at this
        simpa [Nat.add_assoc] using this
      · have := (hq k hk).2.2.2.1
        rw [addr_add] at this
        simpa [Nat.add_assoc] using this

set_option maxRecDepth 100000 in
theorem liftedA (os : Os) (started : os.Started) (H : Type) (enc : TypeId × Value → H) :
    ReturnsInHanded {} Yba.checked os 3 .any (Rows.lawS5557AWholeSpec.pre6 enc Yba.prog Yba.f3 Rows.lawS5557AWholeRow.domain false) (Rows.lawS5557AWholeSpec.post enc Yba.prog Yba.f3 false true false false) := by
  refine returnsInHanded_of_change_sized (C := Yba.checked) ownA started (by kernel_rfl) Yba.func3
    (ChangeSpec.witness6 (enc := enc) (C := Yba.checked) false ⟨#[], #[.string ByteArray.empty, .int .i64 0, .slice none 0 0], []⟩ 8 (by kernel_rfl) (by kernel_rfl) (by kernel_rfl) (by kernel_rfl)) ?_
  intro W base args ds gs before hval0 hW hcnd hsz0 _
  have hval : ∀ (j : Nat) t v, Yba.f3.params[j]? = some t → args[j]? = some v → Value.okWide Yba.prog W .any base t v := hval0
  have hW' := hW
  have hsz : (DataW.weightsEach Yba.prog (Yba.f3.params.toList ++ Rows.lawS5557AWholeSpec.plain.varTypes Yba.prog) (ds ++ gs)).all (· ≤ reachBytes) = true := hsz0
  obtain ⟨p, q, hA0, hV, rfl, hfz, hnd⟩ := hW
  have hA : DataW.TrodAll enc Yba.prog W 0 (fun _ => true) true Yba.f3.params.toList args.toList ds p := hA0
  rw [Yba.params3] at hA hval hsz
  obtain ⟨v0, vs0, d0, ds0, p0, q0, hargs, rfl, rfl, h0, r0⟩ := trodAll_cons hA
  obtain ⟨v1, vs1, d1, ds1, p1, q1, rfl, rfl, rfl, h1, r1⟩ := trodAll_cons r0
  obtain ⟨v2, vs2, d2, ds2, p2, q2, rfl, rfl, rfl, h2, r2⟩ := trodAll_cons r1
  obtain ⟨rfl, rfl, rfl⟩ := trodAll_nil r2
  obtain rfl : args = #[v0, v1, v2] := by cases args; simp_all
  obtain ⟨rfl, rfl⟩ := trodVars_none hV
  obtain ⟨s0, rfl, rfl, rfl, ws0⟩ := open_string Yba.underlying9 (hval 0 9 v0 rfl rfl) h0
  obtain ⟨nw, rfl, rfl, rfl, wnw⟩ := open_int Yba.underlying2 (hval 1 2 v1 rfl rfl) h1
  obtain ⟨a2, l2, c2, rfl⟩ := okWide_slice Yba.underlying22 (hval 2 22 v2 rfl rfl)
  have k2 := h2
  have lt2 : ∀ x ∈ p2, x.block < W.heap.size := by obtain ⟨m, hm⟩ := k2; exact DataW.trod_lt m _ _ _ hm
  have go : Calls Yba.prog 3 #[.string s0, .int .i64 nw, .slice a2 l2 c2] W fun e w' => e = .returned (.bool true) ∧ Below W.heap.size W w' := by
    clear hA0 hval0 hval hW' hV hfz hnd hA r0 r1 r2 k2 lt2
    obtain ⟨f2, hf2⟩ := h2
    obtain ⟨b, o, D, hin⟩ := ms_of (x := (d2, p2)) (by simpa [Value.cells] using hf2) (fun es sp he => by
      simp only at he
      subst he
      have := sized_slice hsz (j := 2) (t := 22) (e := 25) rfl rfl Yba.underlying22
      rw [bytes25] at this
      exact this)
    obtain ⟨w0, w1⟩ := bounds_i64 wnw
    exact law_walk s0 nw a2 l2 c2 b o D W w0 w1 hin
  clear hA0 hval0
  refine go.mono fun e W' ⟨he, bel⟩ => ?_
  subst he
  exact ⟨_, rfl, _, _, _, [], _, [], hW', trodAll_mk1 (shut_bool Yba.underlying4 _), (trodAll_cons_mk (shut_string Yba.underlying9 ws0) (trodAll_cons_mk (shut_int Yba.underlying2 wnw) (trodAll_cons_mk (Below.trod laidOutA (by kernel_rfl) (of_decide_eq_true (by kernel_rfl)) k2 bel lt2) trodAll_mk0))), rfl, bel.frame _, fun h => by cases h⟩

theorem overA : Rows.lawS5557AWholeRow.holds Yba.pinned (OpenSpec.ofChange Rows.lawS5557AWholeSpec) :=
  OpenClaim.holds_of_wide 3 Yba.f3 rfl rfl rfl rfl rfl rfl rfl ⟨rfl, rfl, rfl, rfl, rfl⟩ rfl rfl rfl rfl rfl (by kernel_rfl) Yba.func3 (by kernel_rfl)
    (of_decide_eq_true (by kernel_rfl)) (by unfold Func.isWrapper; first | (rw [if_pos (by decide +kernel)]; kernel_rfl) | (rw [if_neg (by decide +kernel)]; exact ⟨rfl, rfl⟩))
    (fun os started H enc _ => liftedA os started H enc)

/-- The statement. -/
theorem lawS5557AWhole_proved : Rows.LawS5557AWholeSaid := overA
end Go.Proofs.Ybulkdkbg
