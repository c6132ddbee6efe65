import Derived.Test.YbulkdkbgT4
import Derived.MapKept
namespace Go.Proofs.Ybulkdkbg
open Go.RowKit Go.Deep

theorem ba_iff (a b : ByteArray) : (a == b) = true ↔ a = b := by
  obtain ⟨x⟩ := a
  obtain ⟨y⟩ := b
  show (x == y) = true ↔ _
  simp
theorem ba_self (a : ByteArray) : (a == a) = true := (ba_iff a a).2 rfl
theorem ba_ne {a b : ByteArray} (h : ¬ a = b) : (a == b) = false := by
  cases hb : (a == b) with
  | true => exact absurd ((ba_iff a b).1 hb) h
  | false => rfl

/-! maps keyed by strings, of whatever elements -/
def keyIs (k : ByteArray) (e : MapEntry) : Bool := match e.key with | .string s => k == s | _ => false
def look (k : ByteArray) : List MapEntry → Nat → Option (Nat × Value)
  | [], _ => none
  | e :: t, i => if keyIs k e then some (i, e.val) else look k t (i + 1)
def keysStr (es : List MapEntry) : Prop := ∀ e ∈ es, ∃ s, e.key = .string s
def mget (k : ByteArray) (es : List MapEntry) : Option Value := (look k es 0).map (·.2)

theorem findNow_str (k : ByteArray) : ∀ (es : List MapEntry) (i : Nat), keysStr es → Instr.findNow .string (.string k) es i = some (look k es i)
  | [], i, _ => rfl
  | e :: t, i, h => by
    obtain ⟨s, hs⟩ := h e (by simp)
    have ih := findNow_str k t (i + 1) (fun x hx => h x (by simp [hx]))
    simp only [Instr.findNow, hs, Instr.sameNow, look, keyIs]
    by_cases hk : k == s
    · simp [hk]
    · simp [hk, ih]

theorem look_shift (k : ByteArray) : ∀ (es : List MapEntry) (i : Nat), look k es i = (look k es 0).map (fun p => (p.1 + i, p.2))
  | [], i => rfl
  | e :: t, i => by
    simp only [look]
    by_cases hk : keyIs k e
    · simp [hk]
    · rw [if_neg hk, if_neg hk, look_shift k t (i + 1), look_shift k t (0 + 1)]
      cases look k t 0 with
      | none => rfl
      | some p => simp; omega

theorem mget_cons (k : ByteArray) (e : MapEntry) (t : List MapEntry) : mget k (e :: t) = if keyIs k e then some e.val else mget k t := by
  unfold mget
  simp only [look]
  by_cases hk : keyIs k e
  · simp [hk]
  · rw [if_neg hk, if_neg hk, look_shift k t (0 + 1)]
    cases look k t 0 <;> rfl

theorem mget_append (k k' : ByteArray) (v : Value) (c : Nat) : ∀ (es : List MapEntry), mget k' es = none → mget k (es ++ [{ key := .string k', val := v, born := c }]) = if k = k' then some v else mget k es
  | [], _ => by
    rw [List.nil_append, mget_cons]
    by_cases h : k = k'
    · subst h; simp [keyIs, ba_self]
    · have : (k == k') = false := ba_ne h
      simp [keyIs, this, h]
  | e :: t, h => by
    rw [mget_cons] at h
    by_cases hk' : keyIs k' e
    · simp [hk'] at h
    · rw [if_neg hk'] at h
      rw [List.cons_append, mget_cons, mget_cons, mget_append k k' v c t h]
      by_cases hk : keyIs k e
      · rw [if_pos hk, if_pos hk]
        by_cases he : k = k'
        · subst he; exact absurd hk hk'
        · rw [if_neg he]
      · rw [if_neg hk, if_neg hk]

theorem mget_modify (k k' : ByteArray) (v : Value) : ∀ (es : List MapEntry) (j : Nat) (u : Value), look k' es 0 = some (j, u) → mget k (es.modify j fun e => { e with key := .string k', val := v }) = if k = k' then some v else mget k es
  | [], _, _, h => by simp [look] at h
  | e :: t, j, u, h => by
    simp only [look] at h
    by_cases hk' : keyIs k' e
    · rw [if_pos hk'] at h
      simp at h
      obtain ⟨rfl, _⟩ := h
      simp only [List.modify_zero_cons]
      rw [mget_cons, mget_cons]
      by_cases he : k = k'
      · subst he; simp [keyIs, ba_self]
      · have h1 : (k == k') = false := ba_ne he
        have h2 : keyIs k e = false := by
          unfold keyIs at hk' ⊢
          cases hke : e.key with
          | string s =>
            rw [hke] at hk'
            have : k' = s := (ba_iff k' s).1 hk'
            rw [← this]; exact h1
          | _ => rfl
        rw [h2]
        simp [keyIs, h1, he]
    · rw [if_neg hk', look_shift k' t (0 + 1)] at h
      cases hl : look k' t 0 with
      | none => simp [hl] at h
      | some p =>
        obtain ⟨j', u'⟩ := p
        simp [hl] at h
        obtain ⟨rfl, _⟩ := h
        simp only [List.modify_succ_cons]
        rw [mget_cons, mget_cons, mget_modify k k' v t j' u' hl]
        by_cases hk : keyIs k e
        · rw [if_pos hk, if_pos hk]
          by_cases he : k = k'
          · subst he; exact absurd hk hk'
          · rw [if_neg he]
        · rw [if_neg hk, if_neg hk]

/-- block r is a map keyed by strings that answers G -/
def MapIs (w : World) (r : Nat) (G : ByteArray → Option Value) : Prop := ∃ es clock, w.heap[r]? = some (.map es clock) ∧ keysStr es.toList ∧ ∀ k, mget k es.toList = G k
theorem MapIs.of_block {w W : World} {r : Nat} {G : ByteArray → Option Value} (h : MapIs w r G) (e : W.heap[r]? = w.heap[r]?) : MapIs W r G := by
  obtain ⟨es, c, h1, h2⟩ := h
  exact ⟨es, c, e.trans h1, h2⟩
theorem MapIs.lt {w : World} {r : Nat} {G : ByteArray → Option Value} (h : MapIs w r G) : r < w.heap.size := by
  obtain ⟨es, c, h1, h2⟩ := h
  exact (Array.getElem?_eq_some_iff.1 h1).1
theorem MapIs.new (w : World) : MapIs (w.alloc (.map #[] 0)) w.heap.size (fun _ => none) :=
  ⟨#[], 0, blk_alloc_new _ _, by intro e he; simp at he, fun k => rfl⟩

theorem isKey_str (k : ByteArray) : MapKept.IsKey .string (.string k) := by simp [MapKept.IsKey]

/-- 'm[k]' -/
theorem run_lookup_map {P : Program} {w : World} {t e r : Nat} {G : ByteArray → Option Value} {z : Value} (ht : P.underlying t = some (.map 9 e)) (hk9 : P.underlying 9 = some .string) (hz : ∀ w, (zeroValue e).run P w = .ok z w) (h : MapIs w r G) (k : ByteArray) :
    (Instr.lookup t (.map (some r)) (.string k) false).run P w = .ok ((G k).getD z) w := by
  obtain ⟨es, c, h1, h2, h3⟩ := h
  have hf := findNow_str k es.toList 0 h2
  have hg := h3 k
  unfold mget at hg
  cases hl : look k es.toList 0 with
  | none =>
    rw [hl] at hf hg
    simp at hg
    simp [Instr.lookup, run_underlying ht, MapKept.run_getObj_map h1, MapKept.run_checkKey hk9 (isKey_str k), MapKept.run_findKey hk9 hf, hz, ← hg]
  | some p =>
    rw [hl] at hf hg
    simp at hg
    simp [Instr.lookup, run_underlying ht, MapKept.run_getObj_map h1, MapKept.run_checkKey hk9 (isKey_str k), MapKept.run_findKey hk9 hf, ← hg]
theorem run_lookup_nil {P : Program} {w : World} {t e : Nat} {z : Value} (ht : P.underlying t = some (.map 9 e)) (hk9 : P.underlying 9 = some .string) (hz : ∀ w, (zeroValue e).run P w = .ok z w) (k : ByteArray) :
    (Instr.lookup t (.map none) (.string k) false).run P w = .ok z w := by
  have hf := findNow_str k [] 0 (by intro e he; simp at he)
  simp [Instr.lookup, run_underlying ht, MapKept.run_checkKey hk9 (isKey_str k), MapKept.run_findKey hk9 hf, hz, look]

/-- 'm[k] = v': the world behind it -/
def mapPut (w : World) (r : Nat) (k : ByteArray) (v : Value) : World :=
  match w.heap[r]? with
  | some (.map es c) => match look k es.toList 0 with
    | some p => { w with heap := w.heap.setIfInBounds r (.map (es.modify p.1 fun e => { e with key := .string k, val := v }) c) }
    | none => { w with heap := w.heap.setIfInBounds r (.map (es.push { key := .string k, val := v, born := c }) (c + 1)) }
  | _ => w

theorem look_key (k : ByteArray) : ∀ (es : List MapEntry) (j : Nat) (u : Value), look k es 0 = some (j, u) → ∃ e, es[j]? = some e ∧ keyIs k e = true
  | [], _, _, h => by simp [look] at h
  | e :: t, j, u, h => by
    simp only [look] at h
    by_cases hk : keyIs k e
    · rw [if_pos hk] at h
      simp at h
      obtain ⟨rfl, _⟩ := h
      exact ⟨e, rfl, hk⟩
    · rw [if_neg hk, look_shift k t (0 + 1)] at h
      cases hl : look k t 0 with
      | none => simp [hl] at h
      | some p =>
        obtain ⟨j', u'⟩ := p
        simp [hl] at h
        obtain ⟨rfl, _⟩ := h
        simpa using look_key k t j' u' hl

theorem run_update_map {P : Program} {w : World} {t e r : Nat} {G : ByteArray → Option Value} (ht : P.underlying t = some (.map 9 e)) (hk9 : P.underlying 9 = some .string) (h : MapIs w r G) (k : ByteArray) (v : Value) :
    (Instr.mapUpdate t (.map (some r)) (.string k) v).run P w = .ok () (mapPut w r k v) := by
  obtain ⟨es, c, h1, h2, h3⟩ := h
  have hf := findNow_str k es.toList 0 h2
  unfold mapPut
  rw [h1]
  cases hl : look k es.toList 0 with
  | none =>
    rw [hl] at hf
    simp [Instr.mapUpdate, run_underlying ht, MapKept.run_getObj_map h1, MapKept.run_checkKey hk9 (isKey_str k), MapKept.run_findKey hk9 hf, MapKept.run_setObj_map _ h1, hl]
  | some p =>
    obtain ⟨j, u⟩ := p
    rw [hl] at hf
    obtain ⟨en, hen, hke⟩ := look_key k es.toList j u hl
    have hek : en.key = .string k := by
      unfold keyIs at hke
      cases hq : en.key with
      | string s => rw [hq] at hke; rw [(ba_iff k s).1 hke]
      | _ => rw [hq] at hke; simp at hke
    have hes : es[j]? = some en := by simpa using hen
    simp [Instr.mapUpdate, run_underlying ht, MapKept.run_getObj_map h1, MapKept.run_checkKey hk9 (isKey_str k), MapKept.run_findKey hk9 hf, hes, hek, MapKept.run_keyThatStays (isKey_str k), MapKept.run_setObj_map _ h1, hl]

theorem mapPut_only {w : World} {r : Nat} (k : ByteArray) (v : Value) : Only r w (mapPut w r k v) := by
  unfold mapPut
  split
  · split
    · exact ⟨rfl, rfl, rfl, by simp, fun x hx => by simp [Ne.symm hx]⟩
    · exact ⟨rfl, rfl, rfl, by simp, fun x hx => by simp [Ne.symm hx]⟩
  · exact Only.refl _ _

theorem mapPut_is {w : World} {r : Nat} {G : ByteArray → Option Value} (h : MapIs w r G) (k : ByteArray) (v : Value) : MapIs (mapPut w r k v) r (fun k' => if k' = k then some v else G k') := by
  have hlt := h.lt
  obtain ⟨es, c, h1, h2, h3⟩ := h
  unfold mapPut
  rw [h1]
  cases hl : look k es.toList 0 with
  | none =>
    refine ⟨es.push { key := .string k, val := v, born := c }, c + 1, by simp [hl, hlt], ?_, fun k' => ?_⟩
    · intro e he
      simp at he
      rcases he with he | rfl
      · exact h2 e (by simpa using he)
      · exact ⟨k, rfl⟩
    · have hn : mget k es.toList = none := by simp [mget, hl]
      have := mget_append k' k v c es.toList hn
      simp only [Array.toList_push]
      rw [this, h3 k']
  | some p =>
    obtain ⟨j, u⟩ := p
    refine ⟨es.modify j (fun e => { e with key := .string k, val := v }), c, by simp [hl, hlt], ?_, fun k' => ?_⟩
    · intro e he
      simp only [Array.toList_modify] at he
      obtain ⟨i, hi, rfl⟩ := List.mem_iff_getElem.1 he
      simp only [List.getElem_modify]
      split
      · exact ⟨k, rfl⟩
      · exact h2 _ (List.getElem_mem _)
    · simp only [Array.toList_modify]
      rw [mget_modify k' k v es.toList j u hl, h3 k']

end Go.Proofs.Ybulkdkbg
