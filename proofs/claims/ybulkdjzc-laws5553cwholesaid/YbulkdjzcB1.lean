import Derived.Test.YbulkdjzcRows
import Derived.Test.YbulkdjzcKit
import Derived.WalkKit
import Derived.WalkSpells
import Derived.WalkLawsBesides
namespace Go.Proofs.Ybulkdjzc
open Go.RowKit


/-- The closure of hasNull: is the kind of row 'c' the zero kind? -/
theorem cl_any (ao : Option Addr) (len cap b off bx c : Nat) (K : Nat → Int) (w : World)
    (hbx : w.cell? ⟨bx, 0, none⟩ = some (.slice ao len cap))
    (hix : ∀ w : World, (Instr.indexAt 22 (.slice ao len cap) (.int .i64 (c : Int))).run Yba.prog w = .ok (.pointer (some ⟨b, off + c * 3, none⟩)) w)
    (hK : w.cell? ⟨b, off + c * 3, none⟩ = some (.int .u8 (K c))) :
    Calls Yba.prog 10 #[.int .i64 c, .pointer (some ⟨bx, 0, none⟩)] w fun e w' => e = .returned (.bool (K c == 0)) ∧ w' = w := by
  go_enter Yba.func10, Yba.ntmps10
  go_wp2
  go_ret
  exact ⟨rfl, rfl⟩

def anyB (p : Nat → Bool) (n : Nat) : Bool := (List.range n).any p
theorem anyB_false {p : Nat → Bool} {n : Nat} (h : ∀ j, j < n → p j = false) : anyB p n = false := by
  simp only [anyB, List.any_eq_false, List.mem_range]
  intro j hj; simp [h j hj]
theorem anyB_true {p : Nat → Bool} {n k : Nat} (hk : k < n) (h : p k = true) : anyB p n = true := by
  simp only [anyB, List.any_eq_true, List.mem_range]
  exact ⟨k, hk, h⟩
theorem anyB_succ (p : Nat → Bool) (n : Nat) : anyB p (n + 1) = (anyB p n || p n) := by
  simp [anyB, List.range_succ]

set_option maxHeartbeats 400000 in
/-- slices.IndexFunc over the columns, with that closure. -/
theorem idx_any (ao ag : Option Addr) (len cap b off bx g n cn : Nat) (C : Nat → Nat) (K : Nat → Int) (w : World) (hn : n ≤ 1048576)
    (hbx : w.cell? ⟨bx, 0, none⟩ = some (.slice ao len cap))
    (hix : ∀ c, c < len → ∀ w : World, (Instr.indexAt 22 (.slice ao len cap) (.int .i64 (c : Int))).run Yba.prog w = .ok (.pointer (some ⟨b, off + c * 3, none⟩)) w)
    (hK : ∀ c, c < len → w.cell? ⟨b, off + c * 3, none⟩ = some (.int .u8 (K c)))
    (hig : ∀ j, j < n → ∀ w : World, (Instr.indexAt 24 (.slice ag n cn) (.int .i64 (j : Int))).run Yba.prog w = .ok (.pointer (some ⟨g, j, none⟩)) w)
    (hC : ∀ j, j < n → w.cell? ⟨g, j, none⟩ = some (.int .i64 (C j))) (hCl : ∀ j, j < n → C j < len) :
    Calls Yba.prog 12 #[.slice ag n cn, .func (.func 10) #[] #[.pointer (some ⟨bx, 0, none⟩)]] w
      fun e w' => (∃ r : Int, e = .returned (.int .i64 r) ∧ decide (0 ≤ r) = anyB (fun j => K (C j) == 0) n) ∧ w' = w := by
  have HI := hid hix
  have HG := hid hig
  have HK := hid hK
  have HC := hid hC
  have HL := hid hCl
  clear hix hig hK hC hCl
  go_enter Yba.func12, Yba.ntmps12
  go_wp2
  go_loop [8] (fun i => ∃ k : Nat, k ≤ n ∧ i = .int .i64 k ∧ Hid (∀ j, j < k → (K (C j) == 0) = false)) (fun i => n - (intOf i).toNat)
  case atStart => exact ⟨0, Nat.zero_le _, rfl, fun j hj => absurd hj (Nat.not_lt_zero _)⟩
  case round =>
    obtain ⟨k, hk, rfl, hno⟩ := hrel
    by_cases hlt : k < n
    · have hc := HC.out k hlt
      have hgk := HG.out k hlt
      have hcl := HL.out k hlt
      go_wp2_with (go_at_call 10; refine (cl_any ao len cap b off bx (C k) K _ hbx (HI.out _ hcl) (HK.out _ hcl)).mono ?_; rintro e w' ⟨rfl, rfl⟩)
      · have hz : (K (C k) == 0) = true := by assumption
        go_ret
        exact ⟨⟨_, rfl, by rw [anyB_true hlt hz]; simp⟩, rfl⟩
      · have hz : (K (C k) == 0) = false := by assumption
        go_round
        case rel => exact ⟨k + 1, by omega, by go_num, fun j hj => by
          by_cases e : j = k
          · subst e; exact hz
          · exact hno.out j (by omega)⟩
        case measure => simp [intOf]; omega
    · go_wp2
      go_ret
      have e : k = n := by omega
      subst e
      exact ⟨⟨_, rfl, by rw [anyB_false hno.out]; simp⟩, rfl⟩

/-- slices.ContainsFunc: is there one? -/
theorem con_any (ao ag : Option Addr) (len cap b off bx g n cn : Nat) (C : Nat → Nat) (K : Nat → Int) (w : World) (hn : n ≤ 1048576)
    (hbx : w.cell? ⟨bx, 0, none⟩ = some (.slice ao len cap))
    (hix : ∀ c, c < len → ∀ w : World, (Instr.indexAt 22 (.slice ao len cap) (.int .i64 (c : Int))).run Yba.prog w = .ok (.pointer (some ⟨b, off + c * 3, none⟩)) w)
    (hK : ∀ c, c < len → w.cell? ⟨b, off + c * 3, none⟩ = some (.int .u8 (K c)))
    (hig : ∀ j, j < n → ∀ w : World, (Instr.indexAt 24 (.slice ag n cn) (.int .i64 (j : Int))).run Yba.prog w = .ok (.pointer (some ⟨g, j, none⟩)) w)
    (hC : ∀ j, j < n → w.cell? ⟨g, j, none⟩ = some (.int .i64 (C j))) (hCl : ∀ j, j < n → C j < len) :
    Calls Yba.prog 9 #[.slice ag n cn, .func (.func 10) #[] #[.pointer (some ⟨bx, 0, none⟩)]] w
      fun e w' => e = .returned (.bool (anyB (fun j => K (C j) == 0) n)) ∧ w' = w := by
  have HI := hid hix
  have HG := hid hig
  have HK := hid hK
  have HC := hid hC
  have HL := hid hCl
  clear hix hig hK hC hCl
  go_enter Yba.func9, Yba.ntmps9
  go_wp2_with (go_at_call 12; refine (idx_any ao ag len cap b off bx g n cn C K _ hn hbx HI.out HK.out HG.out HC.out HL.out).mono ?_; rintro e w' ⟨⟨r, rfl, hr⟩, rfl⟩)
  go_ret
  exact ⟨by rw [← hr]; rfl, rfl⟩

/-- (*index).hasNull. -/
theorem hn_any (ao ag : Option Addr) (len cap b off ix g n cn : Nat) (C : Nat → Nat) (K : Nat → Int) (w : World) (hn : n ≤ 1048576)
    (hlt : ix < w.heap.size) (hb : ∀ c, c < len → b < w.heap.size) (hg : ∀ j, j < n → g < w.heap.size)
    (hc : w.cell? ⟨ix, 2, none⟩ = some (.slice ag n cn))
    (hix : ∀ c, c < len → ∀ w : World, (Instr.indexAt 22 (.slice ao len cap) (.int .i64 (c : Int))).run Yba.prog w = .ok (.pointer (some ⟨b, off + c * 3, none⟩)) w)
    (hK : ∀ c, c < len → w.cell? ⟨b, off + c * 3, none⟩ = some (.int .u8 (K c)))
    (hig : ∀ j, j < n → ∀ w : World, (Instr.indexAt 24 (.slice ag n cn) (.int .i64 (j : Int))).run Yba.prog w = .ok (.pointer (some ⟨g, j, none⟩)) w)
    (hC : ∀ j, j < n → w.cell? ⟨g, j, none⟩ = some (.int .i64 (C j))) (hCl : ∀ j, j < n → C j < len) :
    Calls Yba.prog 5 #[.pointer (some ⟨ix, 0, none⟩), .slice ao len cap] w
      fun e w' => e = .returned (.bool (anyB (fun j => K (C j) == 0) n)) ∧ w' = w.alloc (.cells #[.slice ao len cap] 22) := by
  have HI := hid hix
  have HG := hid hig
  have HK := hid hK
  have HC := hid hC
  have HL := hid hCl
  clear hix hig hK hC hCl
  go_enter Yba.func5, Yba.ntmps5
  go_wp2_with (go_at_call 9; refine (con_any ao ag len cap b off w.heap.size g n cn C K _ hn (by simp) HI.out (fun c h => (World.cell?_alloc_lt _ _ _ (by exact hb c h)).trans (HK.out c h)) HG.out (fun j h => (World.cell?_alloc_lt _ _ _ (by exact hg j h)).trans (HC.out j h)) HL.out).mono ?_; rintro e w' ⟨rfl, rfl⟩)
  go_ret
  exact ⟨rfl, rfl⟩

end Go.Proofs.Ybulkdjzc
