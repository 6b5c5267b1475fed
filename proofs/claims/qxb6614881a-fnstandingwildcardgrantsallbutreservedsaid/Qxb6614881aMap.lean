import Derived.Test.Qxb6614881aStr
namespace Go.Proofs.Qxb6614881a
open Go.RowKit

/-! ### A map whose keys are strings -/
def KeysOk (es : List MapEntry) : Prop := ∀ e ∈ es, ∃ s, e.key = .string s
/-- What the entries hold at a key: the first that bears it. -/
def ValAt (es : List MapEntry) (k : ByteArray) (o : Option Value) : Prop :=
  (∃ j, ∃ hj : j < es.length, es[j].key = .string k ∧ (∀ i (_ : i < j), es[i].key ≠ .string k) ∧ o = some es[j].val) ∨ ((∀ e ∈ es, e.key ≠ .string k) ∧ o = none)

theorem beq_bytes (a b : ByteArray) : (a == b) = true ↔ a = b := by
  rw [beq_toListBytes]
  exact ⟨fun h => toList_inj (beq_iff_eq.1 h), fun h => by rw [h]; simp⟩

theorem find_spec (es : List MapEntry) (hk : KeysOk es) (k : ByteArray) : ∀ i,
    (∃ j, ∃ hj : j < es.length, es[j].key = .string k ∧ (∀ q (_ : q < j), es[q].key ≠ .string k) ∧ Instr.findNow .string (.string k) es i = some (some (i + j, es[j].val))) ∨
    ((∀ e ∈ es, e.key ≠ .string k) ∧ Instr.findNow .string (.string k) es i = some none) := by
  induction es with
  | nil => exact fun i => .inr ⟨by simp, rfl⟩
  | cons e es ih =>
    intro i
    obtain ⟨s, hs⟩ := hk e (by simp)
    by_cases h : k = s
    · subst h
      refine .inl ⟨0, by simp, hs, fun q hq => by omega, ?_⟩
      have : Instr.sameNow .string (.string k) e.key = some true := by
        rw [hs]; simp only [Instr.sameNow]; rw [(beq_bytes k k).2 rfl]
      simp only [Instr.findNow, this]
      rfl
    · have hne : e.key ≠ .string k := by rw [hs]; intro hh; exact h (Value.string.inj hh).symm
      have hsn : Instr.sameNow .string (.string k) e.key = some false := by
        rw [hs]; simp only [Instr.sameNow]
        have : (k == s) = false := by
          rw [← Bool.not_eq_true, beq_bytes]; exact h
        rw [this]
      have hfn : Instr.findNow .string (.string k) (e :: es) i = Instr.findNow .string (.string k) es (i + 1) := by
        simp only [Instr.findNow, hsn]
      rw [hfn]
      rcases ih (fun x hx => hk x (by simp [hx])) (i + 1) with ⟨j, hj, h1, h2, h3⟩ | ⟨h1, h2⟩
      · refine .inl ⟨j + 1, by simp; omega, by simpa using h1, fun q hq => ?_, by rw [h3]; simp; omega⟩
        cases q with
        | zero => simpa using hne
        | succ q => simpa using h2 q (by omega)
      · refine .inr ⟨fun x hx => ?_, h2⟩
        rcases List.mem_cons.1 hx with rfl | hx
        · exact hne
        · exact h1 x hx

theorem checkKey_str (b : Bool) (k : ByteArray) (w : World) : (Instr.checkKey b 10000 9 (.string k)).run Try.prog w = .ok () w := by
  have key : ∀ n, (Instr.checkKey b (n + 1) 9 (.string k)).run Try.prog w = .ok () w := fun n => by
    simp only [Instr.checkKey, Sem.run_bind, run_underlying Try.underlying9, Result.andThen_ok, Sem.run_pure]
  exact key 9999

theorem run_getMap {w : World} {r : Nat} {es : Array MapEntry} {c : Nat} (h : w.heap[r]? = some (.map es c)) : (getObj r).run Try.prog w = .ok (.map es c) w := by
  simp [getObj, Sem.run, h]
theorem run_setMap {w : World} {r : Nat} {es : Array MapEntry} {c : Nat} (h : w.heap[r]? = some (.map es c)) (o : Obj) : (setObj r o).run Try.prog w = .ok () { w with heap := w.heap.setIfInBounds r o } := by
  simp [setObj, Sem.run, h]

theorem findKey_run (w : World) (k : ByteArray) (es : List MapEntry) {x : Option (Nat × Value)} (h : Instr.findNow .string (.string k) es 0 = some x) : (Instr.findKey 9 (.string k) es).run Try.prog w = .ok x w := by
  simp [Instr.findKey, run_underlying Try.underlying9, h]

/-- A look-up. -/
theorem lookup_run {w : World} {r : Nat} {es : Array MapEntry} {c : Nat} (h : w.heap[r]? = some (.map es c)) (hk : KeysOk es.toList) (k : ByteArray) (o : Option Value) (hv : ValAt es.toList k o) :
    (Instr.lookup 30 (.map (some r)) (.string k) false).run Try.prog w = .ok (o.getD (.agg #[.bool false, .slice none 0 0])) w := by
  have hz : (zeroValue 29).run Try.prog w = .ok (.agg #[.bool false, .slice none 0 0]) w := by
    have h29 : (Try.prog.info? 29).map (·.zero) = some (some (.agg #[.bool false, .slice none 0 0])) := by kernel_rfl
    obtain ⟨i, hi, hs⟩ := Option.map_eq_some_iff.1 h29
    simp [zeroValue, typeInfo, hi, hs]
  rcases find_spec es.toList hk k 0 with ⟨j, hj, h1, h2, h3⟩ | ⟨h1, h2⟩
  · have ho : o = some es.toList[j].val := by
      rcases hv with ⟨j', hj', g1, g2, g3⟩ | ⟨g1, g2⟩
      · rcases Nat.lt_trichotomy j j' with hlt | rfl | hlt
        · exact absurd h1 (g2 j hlt)
        · exact g3
        · exact absurd g1 (h2 j' hlt)
      · exact absurd h1 (g1 _ (List.getElem_mem hj))
    subst ho
    simp [Instr.lookup, run_underlying Try.underlying30, run_getMap h, checkKey_str, findKey_run w k _ h3]
  · have ho : o = none := by
      rcases hv with ⟨j', hj', g1, g2, g3⟩ | ⟨g1, g2⟩
      · exact absurd g1 (h1 _ (List.getElem_mem hj'))
      · exact g2
    subst ho
    simp [Instr.lookup, run_underlying Try.underlying30, run_getMap h, checkKey_str, findKey_run w k _ h2, hz]

/-- A store. -/
theorem update_run {w : World} {r : Nat} {es : Array MapEntry} {c : Nat} (h : w.heap[r]? = some (.map es c)) (hk : KeysOk es.toList) (k : ByteArray) (v : Value) :
    ∃ es' c', (Instr.mapUpdate 30 (.map (some r)) (.string k) v).run Try.prog w = .ok () { w with heap := w.heap.setIfInBounds r (.map es' c') } ∧ KeysOk es'.toList ∧ ValAt es'.toList k (some v) ∧
      ∀ k' o, k' ≠ k → ValAt es.toList k' o → ValAt es'.toList k' o := by
  rcases find_spec es.toList hk k 0 with ⟨j, hj, h1, h2, h3⟩ | ⟨h1, h2⟩
  · have hj' : j < es.size := by simpa using hj
    refine ⟨es.modify j fun e => { e with key := .string k, val := v }, c, ?_, ?_, ?_, ?_⟩
    · have hkey : (es[j]?.map (·.key)).getD (.string k) = .string k := by
        have : es[j].key = .string k := by simpa using h1
        simp [hj', this]
      have hst : (Instr.keyThatStays (.string k) (.string k)).run Try.prog w = .ok (.string k) w := by
        have : Instr.sameBits 10000 (.string k) (.string k) = true := by
          simp only [Instr.sameBits]; exact (beq_bytes k k).2 rfl
        simp [Instr.keyThatStays, this]
      simp only [Nat.zero_add] at h3
      simp only [Instr.mapUpdate, Sem.run_bind, run_underlying Try.underlying30, run_getMap h, checkKey_str, findKey_run w k _ h3, Result.andThen_ok, hkey, hst, run_setMap h]
    · intro e he
      rw [Array.toList_modify] at he
      obtain ⟨i, hi, rfl⟩ := List.getElem_of_mem he
      rw [List.getElem_modify]
      split
      · exact ⟨k, rfl⟩
      · exact hk _ (List.getElem_mem _)
    · refine .inl ⟨j, by simpa using hj', ?_, fun i hi => ?_, ?_⟩
      · simp
      · have := h2 i hi
        rw [Array.getElem_toList, Array.getElem_modify_of_ne (by omega)]
        simpa using this
      · simp
    · intro k' o hne hv
      rcases hv with ⟨q, hq, g1, g2, g3⟩ | ⟨g1, g2⟩
      · have hqj : q ≠ j := by
          rintro rfl
          rw [h1] at g1
          exact hne (Value.string.inj g1).symm
        refine .inl ⟨q, by simpa using hq, ?_, fun i hi => ?_, ?_⟩
        · rw [Array.getElem_toList, Array.getElem_modify_of_ne (fun e => hqj e.symm)]; simpa using g1
        · by_cases hij : i = j
          · subst hij
            intro e
            simp at e
            exact hne e.symm
          · rw [Array.getElem_toList, Array.getElem_modify_of_ne (fun e => hij e.symm)]; simpa using g2 i hi
        · rw [Array.getElem_toList, Array.getElem_modify_of_ne (fun e => hqj e.symm)]; simpa using g3
      · refine .inr ⟨fun e he => ?_, g2⟩
        rw [Array.toList_modify] at he
        obtain ⟨i, hi, rfl⟩ := List.getElem_of_mem he
        rw [List.getElem_modify]
        split
        · intro e
          exact hne (Value.string.inj e).symm
        · exact g1 _ (List.getElem_mem _)
  · refine ⟨es.push { key := .string k, val := v, born := c }, c + 1, ?_, ?_, ?_, ?_⟩
    · simp only [Instr.mapUpdate, Sem.run_bind, run_underlying Try.underlying30, run_getMap h, checkKey_str, findKey_run w k _ h2, Result.andThen_ok, run_setMap h]
    · intro e he
      rw [Array.toList_push, List.mem_append] at he
      rcases he with he | he
      · exact hk e he
      · simp at he; subst he; exact ⟨k, rfl⟩
    · refine .inl ⟨es.size, by simp, by simp, fun i hi => ?_, by simp⟩
      rw [Array.getElem_toList, Array.getElem_push_lt hi]
      exact h1 _ (by simp)
    · intro k' o hne hv
      rcases hv with ⟨q, hq, g1, g2, g3⟩ | ⟨g1, g2⟩
      · have hq' : q < es.size := by simpa using hq
        refine .inl ⟨q, by simp; omega, ?_, fun i hi => ?_, ?_⟩
        · rw [Array.getElem_toList, Array.getElem_push_lt hq']; simpa using g1
        · rw [Array.getElem_toList, Array.getElem_push_lt (by omega)]; simpa using g2 i hi
        · rw [Array.getElem_toList, Array.getElem_push_lt hq']; simpa using g3
      · refine .inr ⟨fun e he => ?_, g2⟩
        rw [Array.toList_push, List.mem_append] at he
        rcases he with he | he
        · exact g1 e he
        · simp at he; subst he
          intro e
          exact hne (Value.string.inj e).symm
end Go.Proofs.Qxb6614881a
