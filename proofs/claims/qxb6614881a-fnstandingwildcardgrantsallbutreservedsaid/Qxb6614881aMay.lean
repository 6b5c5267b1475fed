import Derived.Test.Qxb6614881aMap
namespace Go.Proofs.Qxb6614881a
open Go.RowKit

/-- Is the property one of the two reserved ones? -/
def isRealm (p : ByteArray) : Bool := p.toList == [114, 101, 97, 108, 109, 73, 100]
def isOwner (p : ByteArray) : Bool := p.toList == [111, 119, 110, 101, 114]
def covers (b : Bool) (l : List ByteArray) (p : ByteArray) : Bool := has l p || (b && !(isRealm p || isOwner p))
def cov : Option (Bool × List ByteArray) → ByteArray → Bool
  | none, _ => false
  | some (b, l), p => covers b l p

set_option maxRecDepth 100000 in
set_option maxHeartbeats 1000000 in
theorem coversProperty_any (b : Bool) (a : Option Addr) (c : Nat) (l : List ByteArray) (p : ByteArray) (w : World) (hl : l.length ≤ maxLen) (h : StrsAt w a l) :
    Calls Try.prog 19 #[.agg #[.bool b, .slice a l.length c], .string p] w fun e w' => e = .returned (.bool (covers b l p)) ∧ Below w.heap.size w w' := by
  have hb : Below w.heap.size w (w.alloc (.cells #[.bool b, .slice a l.length c] 29)) := (Below.refl _ _).alloc (Nat.le_refl _) _
  have h' := h.below hb
  go_enter Try.func19, Try.ntmps19
  go_wp2_with fail
  refine (contains_any a c l p _ hl h').mono ?_
  rintro e w' ⟨rfl, rfl⟩
  cases hh : has l p with
  | true =>
    have HH := hide hh
    clear hh h h'
    go_wp2
    go_ret
    exact ⟨by simp [covers, unhide HH], hb⟩
  | false =>
    have HH := hide hh
    clear hh h h'
    cases b with
    | false =>
      go_wp2
      go_ret
      exact ⟨by simp [covers, unhide HH], hb⟩
    | true =>
      cases hr : isRealm p with
      | true =>
        have e1 : (p.toList == [114, 101, 97, 108, 109, 73, 100]) = true := hr
        have HR := hide hr
        clear hr
        go_wp2
        go_ret
        exact ⟨by simp [covers, unhide HH, unhide HR], hb⟩
      | false =>
        have e1 : (p.toList == [114, 101, 97, 108, 109, 73, 100]) = false := hr
        have HR := hide hr
        clear hr
        cases ho : isOwner p with
        | true =>
          have e2 : (p.toList == [111, 119, 110, 101, 114]) = true := ho
          have HO := hide ho
          clear ho
          go_wp2
          go_ret
          exact ⟨by simp [covers, unhide HH, unhide HR, unhide HO], hb⟩
        | false =>
          have e2 : (p.toList == [111, 119, 110, 101, 114]) = false := ho
          have HO := hide ho
          clear ho
          go_wp2
          go_ret
          exact ⟨by simp [covers, unhide HH, unhide HR, unhide HO], hb⟩

theorem coversTable_any (b : Bool) (a : Option Addr) (c : Nat) (l : List ByteArray) (p : ByteArray) (w : World) (hl : l.length ≤ maxLen) (h : StrsAt w a l) :
    Calls Try.prog 20 #[.agg #[.bool b, .slice a l.length c], .string p] w fun e w' => e = .returned (.bool (b || has l p)) ∧ Below w.heap.size w w' := by
  have hb : Below w.heap.size w (w.alloc (.cells #[.bool b, .slice a l.length c] 29)) := (Below.refl _ _).alloc (Nat.le_refl _) _
  have h' := h.below hb
  cases b with
  | true =>
    go_enter Try.func20, Try.ntmps20
    go_wp2
    go_ret
    exact ⟨rfl, hb⟩
  | false =>
    go_enter Try.func20, Try.ntmps20
    go_wp2_with (go_at_call 22; refine (contains_any a c l p _ hl h').mono ?_; rintro e w' ⟨rfl, rfl⟩)
    go_ret
    exact ⟨by simp, hb⟩

/-- A names value as it lies in a map's entry. -/
def NamesVal (w : World) (o : Option Value) : Option (Bool × List ByteArray) → Prop
  | none => o = none
  | some (b, l) => ∃ a c, o = some (.agg #[.bool b, .slice a l.length c]) ∧ StrsAt w a l ∧ l.length ≤ maxLen
def MapNames (w : World) (r : Nat) (F : ByteArray → Option (Bool × List ByteArray)) : Prop :=
  ∃ es c, w.heap[r]? = some (.map es c) ∧ KeysOk es.toList ∧ ∀ k, ∃ o, ValAt es.toList k o ∧ NamesVal w o (F k)

theorem NamesVal.below {w w' : World} {o : Option Value} {U : Option (Bool × List ByteArray)} (h : NamesVal w o U) (hb : Below w.heap.size w w') : NamesVal w' o U := by
  match U, h with
  | none, h => exact h
  | some (b, l), ⟨a, c, h1, h2, h3⟩ => exact ⟨a, c, h1, h2.below hb, h3⟩
theorem MapNames.lt {w : World} {r : Nat} {F : ByteArray → Option (Bool × List ByteArray)} (h : MapNames w r F) : r < w.heap.size := by
  obtain ⟨es, c, h1, _⟩ := h
  exact (Array.getElem?_eq_some_iff.1 h1).1
theorem MapNames.below {w w' : World} {r : Nat} {F : ByteArray → Option (Bool × List ByteArray)} (h : MapNames w r F) (hb : Below w.heap.size w w') : MapNames w' r F := by
  have hlt := h.lt
  obtain ⟨es, c, h1, h2, h3⟩ := h
  refine ⟨es, c, (hb.block r hlt).trans h1, h2, fun k => ?_⟩
  obtain ⟨o, g1, g2⟩ := h3 k
  exact ⟨o, g1, g2.below hb⟩

/-- What a look-up hands back. -/
theorem MapNames.look {w : World} {r : Nat} {F : ByteArray → Option (Bool × List ByteArray)} (h : MapNames w r F) (k : ByteArray) :
    ∃ b a c l, (Instr.lookup 30 (.map (some r)) (.string k) false).run Try.prog w = .ok (.agg #[.bool b, .slice a (List.length l) c]) w ∧ StrsAt w a l ∧ l.length ≤ maxLen ∧ ∀ p, covers b l p = cov (F k) p := by
  obtain ⟨es, c, h1, h2, h3⟩ := h
  obtain ⟨o, g1, g2⟩ := h3 k
  have hr := lookup_run h1 h2 k o g1
  cases hF : F k with
  | none =>
    rw [hF] at g2
    obtain rfl : o = none := g2
    exact ⟨false, none, 0, [], hr, StrsAt.nil _ _, Nat.zero_le _, fun p => by simp [covers, cov, has]⟩
  | some U =>
    obtain ⟨b, l⟩ := U
    rw [hF] at g2
    obtain ⟨a, c', rfl, g3, g4⟩ := g2
    exact ⟨b, a, c', l, hr, g3, g4, fun p => rfl⟩

/-- The closure: 'func(property string) bool { return !p.update[table].coversProperty(property) }'. -/
theorem closure_any (P T r : Nat) (table p : ByteArray) (F : ByteArray → Option (Bool × List ByteArray)) (w : World) (h1 : w.cell? ⟨P, 2, none⟩ = some (.map (some r))) (h2 : w.cell? ⟨T, 0, none⟩ = some (.string table)) (hM : MapNames w r F) :
    Calls Try.prog 18 #[.string p, .pointer (some ⟨P, 0, none⟩), .pointer (some ⟨T, 0, none⟩)] w fun e w' => e = .returned (.bool (!cov (F table) p)) ∧ Below w.heap.size w w' := by
  obtain ⟨b, a, c, l, hrun, hs, hl, hc⟩ := hM.look table
  have HC := hide hc
  clear hc
  go_enter Try.func18, Try.ntmps18
  go_wp2_with fail
  refine (coversProperty_any b a c l p w hl hs).mono ?_
  rintro e w1 ⟨rfl, hb⟩
  rw [unhide HC p]
  clear hrun
  go_wp2
  go_ret
  exact ⟨rfl, hb⟩

/-- All of the first k are covered. -/
def AllTo (U : Option (Bool × List ByteArray)) (ps : List ByteArray) (k : Nat) : Prop := ∀ j (hj : j < ps.length), j < k → cov U ps[j] = true
theorem AllTo.zero (U : Option (Bool × List ByteArray)) (ps : List ByteArray) : AllTo U ps 0 := fun j _ h => by omega
theorem AllTo.succ {U : Option (Bool × List ByteArray)} {ps : List ByteArray} {k : Nat} (h : AllTo U ps k) (hk : k < ps.length) (hc : cov U ps[k] = true) : AllTo U ps (k + 1) := fun j hj h' => by
  by_cases e : j = k
  · subst e; exact hc
  · exact h j hj (by omega)
theorem AllTo.all {U : Option (Bool × List ByteArray)} {ps : List ByteArray} (h : AllTo U ps ps.length) : ps.all (cov U) = true := by
  rw [List.all_eq_true]
  intro p hp
  obtain ⟨j, hj, rfl⟩ := List.getElem_of_mem hp
  exact h j hj hj
theorem not_all {U : Option (Bool × List ByteArray)} {ps : List ByteArray} {k : Nat} (hk : k < ps.length) (hc : cov U ps[k] = false) : ps.all (cov U) = false := by
  rw [← Bool.not_eq_true, List.all_eq_true]
  intro h
  have := h _ (List.getElem_mem hk)
  rw [hc] at this
  cases this

set_option maxRecDepth 100000 in
set_option maxHeartbeats 1000000 in
theorem indexFunc_any (ao : Option Addr) (cap P T r : Nat) (ps : List ByteArray) (table : ByteArray) (F : ByteArray → Option (Bool × List ByteArray)) (w : World) (hl : ps.length ≤ maxLen) (h : StrsAt w ao ps)
    (h1 : w.cell? ⟨P, 2, none⟩ = some (.map (some r))) (h2 : w.cell? ⟨T, 0, none⟩ = some (.string table)) (hM : MapNames w r F) :
    Calls Try.prog 21 #[.slice ao ps.length cap, .func (.func 18) #[] #[.pointer (some ⟨P, 0, none⟩), .pointer (some ⟨T, 0, none⟩)]] w fun e w' => IsIdx e (!ps.all (cov (F table))) ∧ Below w.heap.size w w' := by
  unfold maxLen at hl
  have hP := World.block_lt_of_cell? w _ h1
  have hT := World.block_lt_of_cell? w _ h2
  go_enter Try.func21, Try.ntmps21
  go_wp2
  go_loopw [8] (fun i wr => ∃ k : Nat, k ≤ ps.length ∧ i = .int .i64 k ∧ AllTo (F table) ps k ∧ Below w.heap.size w wr) (fun i _ => ps.length - (intOf i).toNat)
  case atStart => exact ⟨0, Nat.zero_le _, rfl, AllTo.zero _ _, Below.refl _ _⟩
  case round =>
    obtain ⟨k, hk, rfl, hn, hb⟩ := hrel
    have HN := hide hn
    clear hn
    by_cases hlt : k < ps.length
    · obtain ⟨b, off, rfl, hc⟩ := h.below hb k hlt
      have g1 := (hb.cell (p := ⟨P, 2, none⟩) hP).trans h1
      have g2 := (hb.cell (p := ⟨T, 0, none⟩) hT).trans h2
      have gM := hM.below hb
      clear h h1 h2 hM
      go_wp2_with fail
      refine (closure_any P T r table ps[k] F wr g1 g2 gM).mono ?_
      rintro e w1 ⟨rfl, hb1⟩
      have hb2 := hb.trans (hb1.mono hb.size)
      clear hb1 hb g1 g2 gM hc
      cases hcv : cov (F table) ps[k] with
      | true =>
        have HV := hide hcv
        clear hcv
        go_wp2
        go_roundw
        case rel => exact ⟨k + 1, hlt, by go_num, (unhide HN).succ hlt (unhide HV), hb2⟩
        case measure => simp [intOf]; omega
      | false =>
        have HV := hide hcv
        clear hcv
        go_wp2
        go_ret
        exact ⟨IsIdx.yes k (by rw [not_all hlt (unhide HV)]; rfl), hb2⟩
    · have e : k = ps.length := by omega
      have hall : ps.all (cov (F table)) = true := (e ▸ unhide HN : AllTo (F table) ps ps.length).all
      have HA := hide hall
      clear hall e
      go_wp2
      go_ret
      exact ⟨IsIdx.no (by rw [unhide HA]; rfl), hb⟩

theorem containsFunc_any (ao : Option Addr) (cap P T r : Nat) (ps : List ByteArray) (table : ByteArray) (F : ByteArray → Option (Bool × List ByteArray)) (w : World) (hl : ps.length ≤ maxLen) (h : StrsAt w ao ps)
    (h1 : w.cell? ⟨P, 2, none⟩ = some (.map (some r))) (h2 : w.cell? ⟨T, 0, none⟩ = some (.string table)) (hM : MapNames w r F) :
    Calls Try.prog 17 #[.slice ao ps.length cap, .func (.func 18) #[] #[.pointer (some ⟨P, 0, none⟩), .pointer (some ⟨T, 0, none⟩)]] w fun e w' => e = .returned (.bool (!ps.all (cov (F table)))) ∧ Below w.heap.size w w' := by
  go_enter Try.func17, Try.ntmps17
  go_wp2_with fail
  refine (indexFunc_any ao cap P T r ps table F w hl h h1 h2 hM).mono ?_
  rintro e w' ⟨⟨n, rfl, hn⟩, hb⟩
  go_wp2
  go_ret
  refine ⟨?_, hb⟩
  rw [← hn]
  simp

/-- May it? -/
def mayB (mw : Bool) (ml : List ByteArray) (U : Option (Bool × List ByteArray)) (table : ByteArray) (ps : List ByteArray) : Bool := (mw || has ml table) || ps.all (cov U)

set_option maxRecDepth 100000 in
set_option maxHeartbeats 1000000 in
theorem manages_any (aw mw : Bool) (aa ma : Option Addr) (al ac mc r : Nat) (ml : List ByteArray) (table : ByteArray) (w : World) (hl : ml.length ≤ maxLen) (h : StrsAt w ma ml) :
    Calls Try.prog 16 #[.agg #[.bool aw, .slice aa al ac, .map (some r), .bool mw, .slice ma ml.length mc], .string table] w fun e w' => e = .returned (.bool (mw || has ml table)) ∧ Below w.heap.size w w' := by
  have hb : Below w.heap.size w (w.alloc (.cells #[.bool aw, .slice aa al ac, .map (some r), .bool mw, .slice ma ml.length mc] 32)) := (Below.refl _ _).alloc (Nat.le_refl _) _
  go_enter Try.func16, Try.ntmps16
  go_wp2_with fail
  refine (coversTable_any mw ma mc ml table _ hl (h.below hb)).mono ?_
  rintro e w1 ⟨rfl, hb1⟩
  go_wp2
  go_ret
  exact ⟨rfl, hb.trans (hb1.mono hb.size)⟩

set_option maxRecDepth 100000 in
set_option maxHeartbeats 1000000 in
theorem permMay_any (aw mw : Bool) (aa ma ao : Option Addr) (al ac mc cap r : Nat) (ml ps : List ByteArray) (table : ByteArray) (F : ByteArray → Option (Bool × List ByteArray)) (w : World) (hl : ml.length ≤ maxLen) (h : StrsAt w ma ml)
    (hl2 : ps.length ≤ maxLen) (h2 : StrsAt w ao ps) (hM : MapNames w r F) :
    Calls Try.prog 15 #[.agg #[.bool aw, .slice aa al ac, .map (some r), .bool mw, .slice ma ml.length mc], .string table, .slice ao ps.length cap] w fun e w' => e = .returned (.bool (mayB mw ml (F table) table ps)) ∧ Below w.heap.size w w' := by
  obtain ⟨w0, hw0⟩ : ∃ w0, w0 = (w.alloc (.cells #[.bool aw, .slice aa al ac, .map (some r), .bool mw, .slice ma ml.length mc] 32)).alloc (.cells #[.string table] 9) := ⟨_, rfl⟩
  have hb0 : Below w.heap.size w w0 := by subst hw0; exact ((Below.refl _ _).alloc (Nat.le_refl _) _).alloc (by simp) _
  have hP0 : w0.heap[w.heap.size]? = some (.cells #[.bool aw, .slice aa al ac, .map (some r), .bool mw, .slice ma ml.length mc] 32) := by
    subst hw0; exact (Below.heap_alloc _ _ _ (by simp)).trans (heap_alloc_new w _)
  have hT0 : w0.heap[w.heap.size + 1]? = some (.cells #[.string table] 9) := by
    subst hw0; simpa using heap_alloc_new (w.alloc _) _
  have c1 : w0.cell? ⟨w.heap.size, 2, none⟩ = some (.map (some r)) := by rw [cell_of_row _ _ 2 _ 32 (0, 0) hP0]; rfl
  have c2 : w0.cell? ⟨w.heap.size + 1, 0, none⟩ = some (.string table) := by rw [cell_of_row _ _ 0 _ 9 (0, 0) hT0]; rfl
  go_enter Try.func15, Try.ntmps15
  go_wp2_with fail
  rw [← hw0]
  refine (manages_any aw mw aa ma al ac mc r ml table w0 hl (h.below hb0)).mono ?_
  rintro e w1 ⟨rfl, hb1⟩
  have hb2 := hb0.trans (hb1.mono hb0.size)
  have d1 := (hb1.cell (p := ⟨w.heap.size, 2, none⟩) (World.block_lt_of_cell? w0 _ c1)).trans c1
  have d2 := (hb1.cell (p := ⟨w.heap.size + 1, 0, none⟩) (World.block_lt_of_cell? w0 _ c2)).trans c2
  have hs := h2.below hb2
  have gM := hM.below hb2
  clear hw0 hP0 hT0 c1 c2 hM h2 h
  cases hm : (mw || has ml table) with
  | true =>
    have HM := hide hm
    clear hm
    go_wp2
    go_ret
    exact ⟨by simp only [mayB, unhide HM]; rfl, hb2⟩
  | false =>
    have HM := hide hm
    clear hm
    go_wp2_with fail
    refine (containsFunc_any ao cap w.heap.size (w.heap.size + 1) r ps table F w1 hl2 hs d1 d2 gM).mono ?_
    rintro e w2 ⟨rfl, hb3⟩
    clear d1 d2
    go_wp2
    go_ret
    exact ⟨by simp only [mayB, unhide HM]; simp, hb2.trans (hb3.mono hb2.size)⟩

set_option maxRecDepth 100000 in
set_option maxHeartbeats 1000000 in
theorem standMay_any (re ev aw mw : Bool) (aa ma ao : Option Addr) (al ac mc cap r : Nat) (ml ps : List ByteArray) (table : ByteArray) (F : ByteArray → Option (Bool × List ByteArray)) (w : World) (hl : ml.length ≤ maxLen) (h : StrsAt w ma ml)
    (hl2 : ps.length ≤ maxLen) (h2 : StrsAt w ao ps) (hM : MapNames w r F) :
    Calls Try.prog 14 #[.agg #[.bool re, .bool ev, .bool aw, .slice aa al ac, .map (some r), .bool mw, .slice ma ml.length mc], .string table, .slice ao ps.length cap] w fun e w' => e = .returned (.bool (ev || mayB mw ml (F table) table ps)) ∧ Below w.heap.size w w' := by
  have hb : Below w.heap.size w (w.alloc (.cells #[.bool re, .bool ev, .bool aw, .slice aa al ac, .map (some r), .bool mw, .slice ma ml.length mc] 34)) := (Below.refl _ _).alloc (Nat.le_refl _) _
  cases ev with
  | true =>
    go_enter Try.func14, Try.ntmps14
    go_wp2
    go_ret
    exact ⟨rfl, hb⟩
  | false =>
    go_enter Try.func14, Try.ntmps14
    go_wp2_with (go_at_call 15; refine (permMay_any aw mw aa ma ao al ac mc cap r ml ps table F _ hl (h.below hb) hl2 (h2.below hb) (hM.below hb)).mono ?_; rintro e w1 ⟨rfl, hb1⟩)
    go_ret
    exact ⟨by simp, hb.trans (hb1.mono hb.size)⟩

set_option maxRecDepth 100000 in
set_option maxHeartbeats 1000000 in
theorem callMay_any (re ev aw mw : Bool) (aa ma ao : Option Addr) (al ac mc cap r : Nat) (ml ps : List ByteArray) (table : ByteArray) (F : ByteArray → Option (Bool × List ByteArray)) (w : World) (hl : ml.length ≤ maxLen) (h : StrsAt w ma ml)
    (hl2 : ps.length ≤ maxLen) (h2 : StrsAt w ao ps) (hM : MapNames w r F) :
    Calls Try.prog 9 #[.agg #[.bool re, .bool ev, .bool aw, .slice aa al ac, .map (some r), .bool mw, .slice ma ml.length mc], .string table, .slice ao ps.length cap] w fun e w' => e = .returned (.bool (ev || mayB mw ml (F table) table ps)) ∧ Below w.heap.size w w' := by
  have hb : Below w.heap.size w (w.alloc (.cells #[.bool re, .bool ev, .bool aw, .slice aa al ac, .map (some r), .bool mw, .slice ma ml.length mc] 34)) := (Below.refl _ _).alloc (Nat.le_refl _) _
  go_enter Try.func9, Try.ntmps9
  go_wp2_with fail
  refine (standMay_any re ev aw mw aa ma ao al ac mc cap r ml ps table F _ hl (h.below hb) hl2 (h2.below hb) (hM.below hb)).mono ?_
  rintro e w1 ⟨rfl, hb1⟩
  go_wp2
  go_ret
  exact ⟨rfl, hb.trans (hb1.mono hb.size)⟩
end Go.Proofs.Qxb6614881a
