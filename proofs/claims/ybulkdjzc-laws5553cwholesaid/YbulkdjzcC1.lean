import Derived.Test.YbulkdjzcB2
import Derived.BigQuiet
import Derived.BigRegion
import Derived.Deep.QuietTactic
namespace Go.Proofs.Ybulkdjzc
open Go.RowKit Go.Deep

/-- what goValue answers -/
def gval (k n : Int) (s : ByteArray) : Value := if k = 1 then .iface 2 (.int .i64 n) else if k = 2 then .iface 9 (.string s) else .nilIface

theorem goValue_any (k n : Int) (s : ByteArray) (w : World) :
    Calls Yba.prog 11 #[.agg #[.int .u8 k, .int .i64 n, .string s]] w fun e w' => e = .returned (gval k n s) ∧ w' = w.alloc (.cells #[.int .u8 k, .int .i64 n, .string s] 43) := by
  by_cases h1 : k = 1
  · subst h1
    go_enter Yba.func11, Yba.ntmps11
    go_wp2
    go_ret
    exact ⟨rfl, rfl⟩
  · have b1 : (k == 1) = false := beq_eq_false_iff_ne.2 h1
    by_cases h2 : k = 2
    · subst h2
      go_enter Yba.func11, Yba.ntmps11
      go_wp2
      go_ret
      exact ⟨rfl, rfl⟩
    · have b2 : (k == 2) = false := beq_eq_false_iff_ne.2 h2
      have e : gval k n s = .nilIface := by simp [gval, h1, h2]
      have E := hid e
      clear e
      go_enter Yba.func11, Yba.ntmps11
      go_wp2
      go_ret
      exact ⟨by rw [E.out]; rfl, rfl⟩

theorem fill_step {w w' : World} {g l k : Nat} {K N : Nat → Int} {S : Nat → ByteArray} {f : Nat → Value} (h : w.rowIs g 43 (l * 3) f) (hf : ∀ j, j < k * 3 → f j = valF K N S j)
    (hw : w' = ((w.setCell ⟨g, k * 3, none⟩ (.int .u8 (K k))).setCell ⟨g, k * 3 + 1, none⟩ (.int .i64 (N k))).setCell ⟨g, k * 3 + 2, none⟩ (.string (S k))) :
    ∃ f', w'.rowIs g 43 (l * 3) f' ∧ ∀ j, j < (k + 1) * 3 → f' j = valF K N S j := by
  subst hw
  refine ⟨_, ((h.set _ _).set _ _).set _ _, fun j hj => ?_⟩
  by_cases e2 : j = k * 3 + 2
  · subst e2; rw [if_pos rfl, valF2]
  · rw [if_neg e2]
    by_cases e1 : j = k * 3 + 1
    · subst e1; rw [if_pos rfl, valF1]
    · rw [if_neg e1]
      by_cases e0 : j = k * 3
      · subst e0; rw [if_pos rfl, valF0]
      · rw [if_neg e0]; exact hf j (by omega)

set_option maxHeartbeats 400000 in
theorem build_any (ao : Option Addr) (l c b o : Nat) (K N : Nat → Int) (S : Nat → ByteArray) (w : World) (hl : l ≤ 1048576)
    (hix : ∀ c', c' < l → ∀ w : World, (Instr.indexAt 45 (.slice ao l c) (.int .i64 (c' : Int))).run Yba.prog w = .ok (.pointer (some ⟨b, o + c' * 3, none⟩)) w)
    (hb : 0 < l → b < w.heap.size)
    (hc : ∀ i, i < l → w.cell? ⟨b, o + i * 3, none⟩ = some (.int .u8 (K i)) ∧ w.cell? ⟨b, o + i * 3 + 1, none⟩ = some (.int .i64 (N i)) ∧ w.cell? ⟨b, o + i * 3 + 2, none⟩ = some (.string (S i)))
    (hK : ∀ i, i < l → 0 ≤ K i ∧ K i ≤ 255) :
    Calls Yba.prog 6 #[.slice ao l c] w fun e w' => e = .returned (.slice (some ⟨w.heap.size, 0, none⟩) l l) ∧ Below w.heap.size w w' ∧ w'.heap.size = w.heap.size + 1 ∧ w'.rowIs w.heap.size 43 (l * 3) (valF (fun i => K i % 4) N S) := by
  have HI := hid hix
  have HC := hid hc
  have HB := hid hb
  have HK := hid hK
  clear hix hc hb hK
  have hmk0 := run_make_n (P := Yba.prog) 22 43 (.agg #[.int .u8 0, .int .i64 0, .string ⟨#[]⟩]) 3 32 Yba.underlying22 Yba.info43 .i64 .i64 l (by omega) (by omega)
  go_enter Yba.func6, Yba.ntmps6
  go_wp2
  go_loopw [4] (fun i wr => ∃ k : Nat, k ≤ l ∧ i = .int .i64 k ∧ Below w.heap.size w wr ∧ Hid (wr.heap.size = w.heap.size + 1) ∧ Hid (∃ f, wr.rowIs w.heap.size 43 (l * 3) f ∧ ∀ j, j < k * 3 → f j = valF (fun i => K i % 4) N S j)) (fun i _ => l - (intOf i).toNat)
  case atStart => exact ⟨0, Nat.zero_le _, rfl, (Below.refl _ _).alloc (Nat.le_refl _) _, by show (w.alloc _).heap.size = _; simp, hid ⟨_, made_row _ _ _ _, fun j hj => absurd hj (by omega)⟩⟩
  case round =>
    obtain ⟨k, hk, rfl, hbel, hsz, hrow⟩ := hrel
    by_cases hlt : k < l
    · have hi := HI.out k hlt
      have hbw := HB.out (by omega)
      obtain ⟨hk0, hk1⟩ := HK.out k hlt
      have hbc : ∀ o, wr.cell? ⟨b, o, none⟩ = w.cell? ⟨b, o, none⟩ := fun o => hbel.cell (by exact hbw)
      obtain ⟨p0, p1, p2⟩ := HC.out k hlt
      rw [← hbc] at p0 p1 p2
      clear hbc
      obtain ⟨f, hr, hf⟩ := hrow.out
      have q0 := hr.cell (i := k * 3) (by omega)
      have q1 := hr.cell (i := k * 3 + 1) (by omega)
      have q2 := hr.cell (i := k * 3 + 2) (by omega)
      have z0 := hr.frozen (k * 3)
      have z1 := hr.frozen (k * 3 + 1)
      have z2 := hr.frozen (k * 3 + 2)
      have R := hid (fill_step (K := fun i => K i % 4) (N := N) (S := S) hr hf rfl)
      clear hr hf hrow
      go_wp2
      go_region
      all_goals go_wp2
      all_goals go_roundw
      case rel => exact ⟨k + 1, by omega, by go_num, ((((hbel.setCell (Nat.le_refl _) _).setCell (Nat.le_refl _) _).setCell (Nat.le_refl _) _)).drew, by show _ = _; rw [← hsz.out]; simp [World.setCell, World.drew], R⟩
      case measure => simp [intOf]; omega
    · go_wp2
      go_ret
      have ek : k = l := by omega
      subst ek
      obtain ⟨f, hr, hf⟩ := hrow.out
      exact ⟨rfl, hbel, hsz.out, hr.congr hf⟩

end Go.Proofs.Ybulkdjzc
