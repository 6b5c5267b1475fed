import Derived.Test.Qxb6614903aStr
namespace Go.Proofs.Qxb6614903a
open Go.RowKit

theorem Try.info44 : (Try.prog.info? 44).map (fun i => (i.zero, i.size, i.bytes)) = some (some (.string ⟨#[]⟩), 1, 16) := by kernel_rfl
theorem Try.info118 : (Try.prog.info? 118).map (fun i => (i.zero, i.size, i.bytes)) = some (some (.agg #[.string ⟨#[]⟩, .string ⟨#[]⟩, .int .i64 0, .int .i64 0, .pointer none, .slice none 0 0, .slice none 0 0, .pointer none, .pointer none, .pointer none, .pointer none, .pointer none]), 12, 144) := by kernel_rfl

/-! ### A slice of slices of strings -/
def ListsAt (w : World) (ao : Option Addr) (ls : List (List ByteArray)) : Prop :=
  ∀ k (hk : k < ls.length), ∃ b off a c, ao = some ⟨b, off, none⟩ ∧ w.cell? ⟨b, off + k, none⟩ = some (.slice a ls[k].length c) ∧ StrsAt w a ls[k] ∧ ls[k].length ≤ maxLen
theorem ListsAt.below {w w' : World} {ao : Option Addr} {ss : List (List ByteArray)} (h : ListsAt w ao ss) (hb : Below w.heap.size w w') : ListsAt w' ao ss := by
  intro k hk
  obtain ⟨b, off, a, c, h1, h2, h3, h4⟩ := h k hk
  exact ⟨b, off, a, c, h1, (hb.cell (p := ⟨b, off + k, none⟩) (World.block_lt_of_cell? w _ h2)).trans h2, h3.below hb, h4⟩

/-! ### The first list that holds v -/
def first : List (List ByteArray) → ByteArray → Int
  | [], _ => -1
  | l :: ls, v => if has l v then 0 else if first ls v < 0 then -1 else first ls v + 1
/-- None of the first k lists holds v. -/
def NoneTo (ls : List (List ByteArray)) (v : ByteArray) (k : Nat) : Prop := ∀ j (hj : j < ls.length), j < k → has ls[j] v = false
theorem NoneTo.zero (ls : List (List ByteArray)) (v : ByteArray) : NoneTo ls v 0 := fun j _ h => by omega
theorem NoneTo.succ {ls : List (List ByteArray)} {v : ByteArray} {k : Nat} (h : NoneTo ls v k) (hk : k < ls.length) (hn : has ls[k] v = false) : NoneTo ls v (k + 1) := fun j hj h' => by
  by_cases e : j = k
  · subst e; exact hn
  · exact h j hj (by omega)
theorem first_ge (ls : List (List ByteArray)) (v : ByteArray) : -1 ≤ first ls v := by
  cases ls with
  | nil => simp [first]
  | cons l ls => unfold first; split <;> (try split) <;> omega
theorem first_at : ∀ {ls : List (List ByteArray)} {v : ByteArray} {k : Nat} (_ : NoneTo ls v k) (hk : k < ls.length) (_ : has ls[k] v = true), first ls v = k
  | [], _, _, _, hk, _ => by simp at hk
  | l :: ls, v, 0, _, _, hh => by simp at hh; simp [first, hh]
  | l :: ls, v, k + 1, hn, hk, hh => by
    have h0 := hn 0 (by simp) (by omega)
    simp at h0
    have := first_at (ls := ls) (v := v) (k := k) (fun j hj hj' => by have := hn (j + 1) (by simp; omega) (by omega); simpa using this) (by simpa using hk) (by simpa using hh)
    rw [first, h0, this]
    simp
    omega
theorem first_none : ∀ {ls : List (List ByteArray)} {v : ByteArray} (_ : NoneTo ls v ls.length), first ls v = -1
  | [], _, _ => rfl
  | l :: ls, v, hn => by
    have h0 := hn 0 (by simp) (by simp)
    simp at h0
    have := first_none (ls := ls) (v := v) (fun j hj _ => by have := hn (j + 1) (by simp; omega) (by simp; omega); simpa using this)
    rw [first, h0, this]
    simp
theorem first_lt (ls : List (List ByteArray)) (v : ByteArray) : first ls v < ls.length := by
  induction ls with
  | nil => simp [first]
  | cons l ls ih => unfold first; simp only [List.length_cons]; split <;> (try split) <;> omega
theorem first_append (a b : List (List ByteArray)) (v : ByteArray) : first (a ++ b) v = if 0 ≤ first a v then first a v else if 0 ≤ first b v then a.length + first b v else -1 := by
  induction a with
  | nil =>
    have := first_ge b v
    simp only [List.nil_append, first, List.length_nil]
    split <;> (try split) <;> omega
  | cons l a ih =>
    have h1 := first_ge a v
    have h2 := first_ge b v
    simp only [List.cons_append, first, ih, List.length_cons]
    cases has l v <;> simp <;> split <;> (try split) <;> (try split) <;> omega

set_option maxRecDepth 100000 in
set_option maxHeartbeats 1000000 in
theorem firstPhase_any (ao : Option Addr) (cap : Nat) (ls : List (List ByteArray)) (v : ByteArray) (w : World) (hl : ls.length ≤ maxLen) (h : ListsAt w ao ls) :
    Calls Try.prog 23 #[.slice ao ls.length cap, .string v] w fun e w' => e = .returned (.int .i64 (first ls v)) ∧ w' = w := by
  unfold maxLen at hl
  go_enter Try.func23, Try.ntmps23
  go_wp2
  go_loop [5] (fun i => ∃ k : Nat, k ≤ ls.length ∧ i = .int .i64 k ∧ NoneTo ls v k) (fun i => ls.length - (intOf i).toNat)
  case atStart => exact ⟨0, Nat.zero_le _, rfl, NoneTo.zero _ _⟩
  case round =>
    obtain ⟨k, hk, rfl, hn⟩ := hrel
    have HN := hide hn
    clear hn
    by_cases hlt : k < ls.length
    · obtain ⟨b, off, a, c, rfl, h1, h2, h3⟩ := h k hlt
      clear h
      go_wp2_with fail
      refine (hasGo_any a c ls[k] v w h3 h2).mono ?_
      rintro e w' ⟨rfl, rfl⟩
      cases hh : has ls[k] v with
      | true =>
        have HV := hide hh
        clear hh h2
        go_wp2
        go_ret
        exact ⟨by rw [first_at (unhide HN) hlt (unhide HV)]; rfl, rfl⟩
      | false =>
        have HV := hide hh
        clear hh h2
        go_wp2
        go_round
        case rel => exact ⟨k + 1, hlt, by go_num, (unhide HN).succ hlt (unhide HV)⟩
        case measure => simp [intOf]; omega
    · have e : k = ls.length := by omega
      subst e
      have hno := hide (first_none (unhide HN))
      go_wp2
      go_ret
      exact ⟨by rw [unhide hno]; rfl, rfl⟩

/-! ### Phases in memory -/
/-- A phase at block g from cell o on: all zero but its tasks. -/
def PhCells (w : World) (g o : Nat) (v : Value) : Prop :=
  w.cell? ⟨g, o, none⟩ = some (.string ⟨#[]⟩) ∧ w.cell? ⟨g, o + 1, none⟩ = some (.string ⟨#[]⟩) ∧ w.cell? ⟨g, o + 2, none⟩ = some (.int .i64 0) ∧ w.cell? ⟨g, o + 3, none⟩ = some (.int .i64 0) ∧ w.cell? ⟨g, o + 4, none⟩ = some (.pointer none) ∧
    w.cell? ⟨g, o + 5, none⟩ = some (.slice none 0 0) ∧ w.cell? ⟨g, o + 6, none⟩ = some v ∧ w.cell? ⟨g, o + 7, none⟩ = some (.pointer none) ∧ w.cell? ⟨g, o + 8, none⟩ = some (.pointer none) ∧ w.cell? ⟨g, o + 9, none⟩ = some (.pointer none) ∧
    w.cell? ⟨g, o + 10, none⟩ = some (.pointer none) ∧ w.cell? ⟨g, o + 11, none⟩ = some (.pointer none)
theorem PhCells.below {w w' : World} {g o : Nat} {v : Value} (h : PhCells w g o v) (hb : Below w.heap.size w w') : PhCells w' g o v := by
  have hg : g < w.heap.size := World.block_lt_of_cell? w _ h.1
  have k : ∀ i, w'.cell? ⟨g, i, none⟩ = w.cell? ⟨g, i, none⟩ := fun i => hb.cell (p := ⟨g, i, none⟩) hg
  unfold PhCells
  simp only [k]
  exact h
/-- The phases of a plan: their lists of tasks are ls. -/
def PhAt (w : World) (ao : Option Addr) (ls : List (List ByteArray)) : Prop :=
  ∀ k (hk : k < ls.length), ∃ g a c, ao = some ⟨g, 0, none⟩ ∧ PhCells w g (k * 12) (.slice a ls[k].length c) ∧ StrsAt w a ls[k] ∧ ls[k].length ≤ maxLen
theorem PhAt.below {w w' : World} {ao : Option Addr} {ls : List (List ByteArray)} (h : PhAt w ao ls) (hb : Below w.heap.size w w') : PhAt w' ao ls := by
  intro k hk
  obtain ⟨g, a, c, h1, h2, h3, h4⟩ := h k hk
  exact ⟨g, a, c, h1, h2.below hb, h3.below hb, h4⟩

set_option maxRecDepth 100000 in
set_option maxHeartbeats 1000000 in
theorem closure_any (T : Nat) (a : Option Addr) (c : Nat) (l : List ByteArray) (v : ByteArray) (w : World) (hl : l.length ≤ maxLen) (h : StrsAt w a l) (h2 : w.cell? ⟨T, 0, none⟩ = some (.string v)) :
    Calls Try.prog 47 #[.agg #[.string ⟨#[]⟩, .string ⟨#[]⟩, .int .i64 0, .int .i64 0, .pointer none, .slice none 0 0, .slice a l.length c, .pointer none, .pointer none, .pointer none, .pointer none, .pointer none], .pointer (some ⟨T, 0, none⟩)] w
      fun e w' => e = .returned (.bool (has l v)) ∧ Below w.heap.size w w' := by
  have hb : Below w.heap.size w (w.alloc (.cells #[.string ⟨#[]⟩, .string ⟨#[]⟩, .int .i64 0, .int .i64 0, .pointer none, .slice none 0 0, .slice a l.length c, .pointer none, .pointer none, .pointer none, .pointer none, .pointer none] 118)) := (Below.refl _ _).alloc (Nat.le_refl _) _
  have h' := h.below hb
  have h2' := (hb.cell (p := ⟨T, 0, none⟩) (World.block_lt_of_cell? w _ h2)).trans h2
  go_enter Try.func47, Try.ntmps47
  go_wp2_with fail
  refine (contains_any a c l v _ hl h').mono ?_
  rintro e w' ⟨rfl, rfl⟩
  clear h h' h2 h2'
  go_wp2
  go_ret
  exact ⟨rfl, hb⟩

set_option maxRecDepth 100000 in
set_option maxHeartbeats 1000000 in
theorem indexFunc_any (ao : Option Addr) (cap T : Nat) (ls : List (List ByteArray)) (v : ByteArray) (w : World) (hl : ls.length ≤ maxLen) (h : PhAt w ao ls) (h2 : w.cell? ⟨T, 0, none⟩ = some (.string v)) :
    Calls Try.prog 46 #[.slice ao ls.length cap, .func (.func 47) #[] #[.pointer (some ⟨T, 0, none⟩)]] w fun e w' => e = .returned (.int .i64 (first ls v)) ∧ Below w.heap.size w w' := by
  unfold maxLen at hl
  have hT := World.block_lt_of_cell? w _ h2
  go_enter Try.func46, Try.ntmps46
  go_wp2
  go_loopw [8] (fun i wr => ∃ k : Nat, k ≤ ls.length ∧ i = .int .i64 k ∧ NoneTo ls v k ∧ Below w.heap.size w wr) (fun i _ => ls.length - (intOf i).toNat)
  case atStart => exact ⟨0, Nat.zero_le _, rfl, NoneTo.zero _ _, Below.refl _ _⟩
  case round =>
    obtain ⟨k, hk, rfl, hn, hb⟩ := hrel
    have HN := hide hn
    clear hn
    by_cases hlt : k < ls.length
    · obtain ⟨g, a, c, rfl, hc, hs, hsl⟩ := h.below hb k hlt
      have g2 := (hb.cell (p := ⟨T, 0, none⟩) hT).trans h2
      obtain ⟨s0, s1, s2, s3, s4, s5, s6, s7, s8, s9, s10, s11⟩ := hc
      clear h h2
      go_wp2_with fail
      refine (closure_any T a c ls[k] v wr hsl hs g2).mono ?_
      rintro e w1 ⟨rfl, hb1⟩
      have hb2 := hb.trans (hb1.mono hb.size)
      clear hb1 hb g2 hs s0 s1 s2 s3 s4 s5 s6 s7 s8 s9 s10 s11
      cases hcv : has ls[k] v with
      | false =>
        have HV := hide hcv
        clear hcv
        go_wp2
        go_roundw
        case rel => exact ⟨k + 1, hlt, by go_num, (unhide HN).succ hlt (unhide HV), hb2⟩
        case measure => simp [intOf]; omega
      | true =>
        have HV := hide hcv
        clear hcv
        go_wp2
        go_ret
        exact ⟨by rw [first_at (unhide HN) hlt (unhide HV)]; rfl, hb2⟩
    · have e : k = ls.length := by omega
      subst e
      have hno := hide (first_none (unhide HN))
      go_wp2
      go_ret
      exact ⟨by rw [unhide hno]; rfl, hb⟩
end Go.Proofs.Qxb6614903a
