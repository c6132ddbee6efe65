import Derived.Test.YbulkdjzcKit
import Derived.ProofKit
import Derived.ChangeArms
import Derived.Deep.Slices
import Derived.Deep.Strs
namespace Go.Proofs.Ybulkdjzc
open Go.ChangeShapes Go.WideShapes Go.RowKit Go.Deep

theorem lt_of_cell {w : World} {b o : Nat} {v : Value} (h : w.cell? ⟨b, o, none⟩ = some v) : b < w.heap.size := by
  unfold World.cell? at h
  simp at h
  split at h
  · rename_i hq
    exact (Array.getElem?_eq_some_iff.1 hq).1
  · simp at h

section
variable {H : Type} {enc : TypeId × Value → H} {P : Program} {w : World} {spare : Nat → Bool} {held : Bool}

/-- A slice of structs { u8; i64; string } that came in, opened. -/
theorem open_vals {t e : TypeId} {f0 f1 f2 : Field} {fuel : Nat} {ao : Option Addr} {len cap : Nat} {x : DataW H × List MemPlace} (ht : P.underlying t = some (.slice e)) (he : P.underlying e = some (.struct #[f0, f1, f2]))
    (ce : P.cellsOf e = 3) (o0 : f0.offset = 0) (o1 : f1.offset = 1) (o2 : f2.offset = 2) (c0 : P.cellsOf f0.type = 1) (c1 : P.cellsOf f1.type = 1) (c2 : P.cellsOf f2.type = 1)
    (u0 : P.underlying f0.type = some (.int .u8)) (u1 : P.underlying f1.type = some (.int .i64)) (u2 : P.underlying f2.type = some .string)
    (h : DataW.trod enc P w 0 spare held fuel t [.slice ao len cap] = some x) :
    ∃ (b o : Nat) (K N : Nat → Int) (S : Nat → ByteArray), len ≤ maxLen ∧ (0 < len → ao = some ⟨b, o, none⟩ ∧ b < w.heap.size) ∧ (ao = none → len = 0 ∧ cap = 0) ∧
      ((len = 0 ∧ x.1 = .nil) ∨ ∃ es sp, x.1 = .slice es sp ∧ es.length = len) ∧
      ∀ i, i < len → (w.cell? ⟨b, o + i * 3, none⟩ = some (.int .u8 (K i)) ∧ w.cell? ⟨b, o + i * 3 + 1, none⟩ = some (.int .i64 (N i)) ∧ w.cell? ⟨b, o + i * 3 + 2, none⟩ = some (.string (S i))) ∧
        (Lit.int .u8 (K i)).wf = true ∧ (Lit.int .i64 (N i)).wf = true ∧ (S i).size ≤ maxLen := by
  rcases open_slice ht h with ⟨hcs, rfl⟩ | ⟨a, len', cap', m, n, D, Pl, hcs, hb, hl, hm, hmm, rfl, hx⟩
  · simp at hcs
    obtain ⟨rfl, rfl, rfl⟩ := hcs
    exact ⟨0, 0, fun _ => 0, fun _ => 0, fun _ => ByteArray.empty, by omega, fun h => absurd h (by omega), fun _ => ⟨rfl, rfl⟩, .inl ⟨rfl, rfl⟩, fun i hi => absurd hi (by omega)⟩
  · simp at hcs
    obtain ⟨rfl, rfl, rfl⟩ := hcs
    have hlm : len ≤ m := by rw [hmm]; split <;> omega
    have each : ∀ i, i < len → ∃ q : Int × Int × ByteArray, w.cell? (a.add (i * 3)) = some (.int .u8 q.1) ∧ w.cell? (a.add (i * 3 + 1)) = some (.int .i64 q.2.1) ∧ w.cell? (a.add (i * 3 + 2)) = some (.string q.2.2) ∧
        (Lit.int .u8 q.1).wf = true ∧ (Lit.int .i64 q.2.1).wf = true ∧ q.2.2.size ≤ maxLen := by
      intro i hi
      obtain ⟨cs', h1, h2⟩ := hx i (by omega)
      rw [ce] at h1
      obtain ⟨_, hlen, hcell⟩ := World.cells?_some h1
      obtain ⟨y0, y1, y2, k, hxy, _, g0, g1, g2⟩ := trod_struct3 he h2
      match cs', hlen with
      | [v0, v1, v2], _ =>
        simp [o0, o1, o2, c0, c1, c2] at g0 g1 g2
        obtain ⟨n0, hv0, _, wf0⟩ := DataW.trod_int u0 g0
        obtain ⟨n1, hv1, _, wf1⟩ := DataW.trod_int u1 g1
        obtain ⟨s2, hv2, _, wf2⟩ := DataW.trod_string u2 g2
        simp at hv0 hv1 hv2
        have e0 := hcell 0 (by omega)
        have e1 := hcell 1 (by omega)
        have e2 := hcell 2 (by omega)
        rw [add_add] at e0 e1 e2
        refine ⟨(n0, n1, s2), by simpa [hv0] using e0, by simpa [hv1] using e1, by simpa [hv2] using e2, wf0, wf1, wf2⟩
    obtain ⟨q, hq⟩ := choose_lt each
    have hsp : ((len = 0 ∧ DataW.slice ((List.range len).map D) ((List.range (m - len)).map fun j => D (len + j)) = .nil) ∨ ∃ es sp, DataW.slice ((List.range len).map D) ((List.range (m - len)).map fun j => D (len + j)) = .slice es sp ∧ es.length = len) := .inr ⟨_, _, rfl, by simp⟩
    by_cases h0 : len = 0
    · exact ⟨0, 0, fun _ => 0, fun _ => 0, fun _ => ByteArray.empty, by omega, fun h => absurd h (by omega), fun h => by simp at h, hsp, fun i hi => absurd hi (by omega)⟩
    · obtain ⟨ab, ao, as⟩ := a
      have hspot : as = none := by simpa [Addr.add] using World.cell?_spot (hq 0 (by omega)).1
      subst hspot
      refine ⟨ab, ao, fun i => (q i).1, fun i => (q i).2.1, fun i => (q i).2.2, by omega, fun _ => ⟨rfl, ?_⟩, fun h => by simp at h, hsp, fun i hi => ?_⟩
      · have := (hq 0 (by omega)).1
        rw [addr_add] at this
        exact lt_of_cell this
      · obtain ⟨p0, p1, p2, r⟩ := hq i hi
        rw [addr_add] at p0 p1 p2
        exact ⟨⟨p0, by simpa [Nat.add_assoc] using p1, by simpa [Nat.add_assoc] using p2⟩, r⟩

end
end Go.Proofs.Ybulkdjzc
