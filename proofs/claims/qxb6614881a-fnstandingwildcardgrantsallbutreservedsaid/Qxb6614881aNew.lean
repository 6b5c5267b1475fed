import Derived.Test.Qxb6614881aMay
namespace Go.Proofs.Qxb6614881a
open Go.RowKit

def BoolsAt (w : World) (ao : Option Addr) (bs : List Bool) : Prop :=
  ∀ k (hk : k < bs.length), ∃ b off, ao = some ⟨b, off, none⟩ ∧ w.cell? ⟨b, off + k, none⟩ = some (.bool bs[k])
theorem BoolsAt.below {w w' : World} {ao : Option Addr} {ss : List Bool} (h : BoolsAt w ao ss) (hb : Below w.heap.size w w') : BoolsAt w' ao ss := by
  intro k hk
  obtain ⟨b, off, h1, h2⟩ := h k hk
  exact ⟨b, off, h1, (hb.cell (p := ⟨b, off + k, none⟩) (World.block_lt_of_cell? w _ h2)).trans h2⟩
/-- A slice of slices of strings. -/
def ListsAt (w : World) (ao : Option Addr) (ls : List (List ByteArray)) : Prop :=
  ∀ k (hk : k < ls.length), ∃ b off a c, ao = some ⟨b, off, none⟩ ∧ w.cell? ⟨b, off + k, none⟩ = some (.slice a ls[k].length c) ∧ StrsAt w a ls[k] ∧ ls[k].length ≤ maxLen
theorem ListsAt.below {w w' : World} {ao : Option Addr} {ss : List (List ByteArray)} (h : ListsAt w ao ss) (hb : Below w.heap.size w w') : ListsAt w' ao ss := by
  intro k hk
  obtain ⟨b, off, a, c, h1, h2, h3, h4⟩ := h k hk
  exact ⟨b, off, a, c, h1, (hb.cell (p := ⟨b, off + k, none⟩) (World.block_lt_of_cell? w _ h2)).trans h2, h3.below hb, h4⟩

/-- What the map holds behind i rounds: the last of the first i tables that is k. -/
def FTo (ts : List ByteArray) (ws : List Bool) (ls : List (List ByteArray)) : Nat → ByteArray → Option (Bool × List ByteArray)
  | 0, _ => none
  | i + 1, k => if k.toList == (ts.getD i .empty).toList then some (ws.getD i false, ls.getD i []) else FTo ts ws ls i k

/-- A world in which one map has turned. -/
theorem cell_keep {w : World} {r : Nat} {es : Array MapEntry} {c : Nat} (h : w.heap[r]? = some (.map es c)) (o : Obj) {a : Addr} {v : Value} (hv : w.cell? a = some v) : ({ w with heap := w.heap.setIfInBounds r o } : World).cell? a = some v := by
  have hne : r ≠ a.block := by
    rintro rfl
    simp [World.cell?, h] at hv
  rw [← hv]
  exact World.cell?_of_block (by show (w.heap.setIfInBounds r o)[a.block]? = _; rw [Array.getElem?_setIfInBounds_ne hne])
theorem below_set {B : Nat} {w0 w : World} (hb : Below B w0 w) {r : Nat} (hr : B ≤ r) (o : Obj) : Below B w0 { w with heap := w.heap.setIfInBounds r o } :=
  hb.trans ⟨rfl, rfl, rfl, by simp, fun k hk => by show (w.heap.setIfInBounds r o)[k]? = _; rw [Array.getElem?_setIfInBounds_ne (by omega)]⟩

theorem StrsAt.keep {w : World} {r : Nat} {es : Array MapEntry} {c : Nat} (h : w.heap[r]? = some (.map es c)) (o : Obj) {ao : Option Addr} {ss : List ByteArray} (hs : StrsAt w ao ss) : StrsAt { w with heap := w.heap.setIfInBounds r o } ao ss := by
  intro k hk
  obtain ⟨b, off, h1, h2⟩ := hs k hk
  exact ⟨b, off, h1, cell_keep h o h2⟩

theorem MapNames.store {w : World} {r : Nat} {F : ByteArray → Option (Bool × List ByteArray)} (h : MapNames w r F) (t : ByteArray) (b : Bool) (a : Option Addr) (l : List ByteArray) (c : Nat) (hs : StrsAt w a l) (hl : l.length ≤ maxLen) :
    ∃ W : World, (Instr.mapUpdate 30 (.map (some r)) (.string t) (.agg #[.bool b, .slice a l.length c])).run Try.prog w = .ok () W ∧ MapNames W r (fun k => if k.toList == t.toList then some (b, l) else F k) ∧
      (∀ B w0, Below B w0 w → B ≤ r → Below B w0 W) ∧ (∀ p v, w.cell? p = some v → W.cell? p = some v) := by
  have hlt := h.lt
  obtain ⟨es, cl, h1, h2, h3⟩ := h
  obtain ⟨es', c', hr, hk', hv', hrest⟩ := update_run h1 h2 t (.agg #[.bool b, .slice a l.length c])
  refine ⟨_, hr, ⟨es', c', ?_, hk', fun k => ?_⟩, fun B w0 hb hB => below_set hb hB _, fun p v hv => cell_keep h1 _ hv⟩
  · show (w.heap.setIfInBounds r (.map es' c'))[r]? = _
    rw [Array.getElem?_setIfInBounds_self_of_lt hlt]
  · dsimp only
    by_cases e : k = t
    · subst e
      rw [if_pos (by simp)]
      exact ⟨_, hv', a, c, rfl, hs.keep h1 _, hl⟩
    · rw [if_neg (by rw [beq_ne e]; simp)]
      obtain ⟨o, g1, g2⟩ := h3 k
      refine ⟨o, hrest k o e g1, ?_⟩
      match hF : F k, g2 with
      | none, g2 => exact g2
      | some (b', l'), ⟨a', c'', e1, e2, e3⟩ => exact ⟨a', c'', e1, e2.keep h1 _, e3⟩

theorem mapNames_new (w : World) (ts : List ByteArray) (ws : List Bool) (ls : List (List ByteArray)) : MapNames (w.alloc (.map #[] 0)) w.heap.size (FTo ts ws ls 0) :=
  ⟨#[], 0, heap_alloc_new w _, fun e he => by simp at he, fun k => ⟨none, .inr ⟨by simp, rfl⟩, rfl⟩⟩

/-- A world that differs in one block, in which no string lies. -/
theorem StrsAt.other {w W : World} {N : Nat} (hk : ∀ k, k ≠ N → W.heap[k]? = w.heap[k]?) (hn : ∀ i s, w.cell? ⟨N, i, none⟩ ≠ some (.string s)) {ao : Option Addr} {ss : List ByteArray} (h : StrsAt w ao ss) : StrsAt W ao ss := by
  intro k hkl
  obtain ⟨b, off, h1, h2⟩ := h k hkl
  have hb : b ≠ N := by
    rintro rfl
    exact hn _ _ h2
  exact ⟨b, off, h1, (World.cell?_of_block (a := ⟨b, off + k, none⟩) (hk b hb)).trans h2⟩
theorem MapNames.other {w W : World} {N r : Nat} (hk : ∀ k, k ≠ N → W.heap[k]? = w.heap[k]?) (hn : ∀ i s, w.cell? ⟨N, i, none⟩ ≠ some (.string s)) (hr : r ≠ N) {F : ByteArray → Option (Bool × List ByteArray)} (h : MapNames w r F) : MapNames W r F := by
  obtain ⟨es, c, h1, h2, h3⟩ := h
  refine ⟨es, c, (hk r hr).trans h1, h2, fun k => ?_⟩
  obtain ⟨o, g1, g2⟩ := h3 k
  refine ⟨o, g1, ?_⟩
  match hF : F k, g2 with
  | none, g2 => exact g2
  | some (b, l), ⟨a, c', e1, e2, e3⟩ => exact ⟨a, c', e1, e2.other hk hn, e3⟩

theorem makeMap_run (n : Int) (W : World) : (Instr.makeMap 30 (some (.int .i64 n))).run Try.prog W = .ok (.map (some W.heap.size)) (W.alloc (.map #[] 0)) := by
  simp only [Instr.makeMap, Sem.run_bind, run_underlying Try.underlying30, Result.andThen_ok, asInt, asIntOf, Sem.run_pure]
  rfl

set_option maxRecDepth 100000 in
set_option maxHeartbeats 2000000 in
theorem newStanding_any (re ev aw mw : Bool) (aa ma ta wa la : Option Addr) (al ac ml mc tc wc lc : Nat) (ts : List ByteArray) (ws : List Bool) (ls : List (List ByteArray)) (w : World) (hl : ts.length ≤ maxLen) (hw : ws.length = ts.length) (hls : ls.length = ts.length)
    (hT : StrsAt w ta ts) (hW : BoolsAt w wa ws) (hL : ListsAt w la ls) :
    Calls Try.prog 8 #[.bool re, .bool ev, .bool aw, .slice aa al ac, .slice ta ts.length tc, .slice wa ts.length wc, .slice la ts.length lc, .bool mw, .slice ma ml mc] w fun e w' =>
      ∃ r, e = .returned (.agg #[.bool re, .bool ev, .bool aw, .slice aa al ac, .map (some r), .bool mw, .slice ma ml mc]) ∧ MapNames w' r (FTo ts ws ls ts.length) ∧ Below w.heap.size w w' := by
  unfold maxLen at hl
  have hmm := makeMap_run
  go_enter Try.func8, Try.ntmps8
  go_wp2
  obtain ⟨w1, hw1⟩ : ∃ w1, w1 = (w.alloc (.cells #[.bool false, .bool false, .bool false, .slice none 0 0, .map none, .bool false, .slice none 0 0] 34)).alloc (.map #[] 0) := ⟨_, rfl⟩
  have hM1 : MapNames w1 (w.heap.size + 1) (FTo ts ws ls 0) := by subst hw1; simpa using mapNames_new (w.alloc _) ts ws ls
  have hb1 : Below w.heap.size w w1 := by subst hw1; exact ((Below.refl _ _).alloc (Nat.le_refl _) _).alloc (by simp) _
  have hres : w1.heap[w.heap.size]? = some (.cells #[.bool false, .bool false, .bool false, .slice none 0 0, .map none, .bool false, .slice none 0 0] 34) := by
    subst hw1; exact (Below.heap_alloc _ _ _ (by simp)).trans (heap_alloc_new w _)
  rw [← hw1]
  clear hw1 hmm
  go_loopw [20] (fun i wr => ∃ k : Nat, k ≤ ts.length ∧ i = .int .i64 k ∧ MapNames wr (w.heap.size + 1) (FTo ts ws ls k) ∧ Below (w.heap.size + 1) w1 wr) (fun i _ => ts.length - (intOf i).toNat)
  case atStart => exact ⟨0, Nat.zero_le _, rfl, hM1, Below.refl _ _⟩
  case round =>
    clear hM1
    obtain ⟨k, hk, rfl, hM, hb⟩ := hrel
    by_cases hlt : k < ts.length
    · have hbw : Below w.heap.size w wr := hb1.trans (hb.mono (by omega))
      obtain ⟨b1, o1, rfl, c1⟩ := hT.below hbw k hlt
      obtain ⟨b2, o2, rfl, c2⟩ := hW.below hbw k (by omega)
      obtain ⟨b3, o3, a, c, rfl, c3, hs, hsl⟩ := hL.below hbw k (by omega)
      obtain ⟨W, hrun, hM2, hB2, hC2⟩ := MapNames.store (w := wr.drew) hM ts[k] ws[k] a ls[k] c hs hsl
      have hb2 := hB2 _ _ hb.drew (Nat.le_refl _)
      have e1 := hC2 _ _ c1
      have e2 := hC2 _ _ c2
      have e3 := hC2 _ _ c3
      have kI : (k : Int) < (ts.length : Int) := by omega
      have kJ : (0 : Int) ≤ (k : Int) := by omega
      have HM2 := hide hM2
      clear hT hW hL hM hM2 hB2 hC2 hs hb hbw hsl
      obtain ⟨t, ht⟩ : ∃ t, t = ts[k] := ⟨_, rfl⟩
      obtain ⟨u, hu⟩ : ∃ u, u = ws[k] := ⟨_, rfl⟩
      obtain ⟨l, hll⟩ : ∃ l, l = ls[k].length := ⟨_, rfl⟩
      rw [← ht] at c1 e1 hrun
      rw [← hu] at c2 e2 hrun
      rw [← hll] at c3 e3 hrun
      clear ht hu hll
      go_wp2_with fail
      go_region_held3 (fun w' => w'.cell? ⟨b1, o1 + k, none⟩ = some (.string t) ∧ w'.cell? ⟨b2, o2 + k, none⟩ = some (.bool u) ∧ w'.cell? ⟨b3, o3 + k, none⟩ = some (.slice a l c)) (first | exact ⟨c1, c2, c3⟩ | exact ⟨e1, e2, e3⟩) (fail)
      go_wp2
      go_roundw
      case rel =>
        refine ⟨k + 1, hlt, by go_num, ?_, hb2⟩
        have hM3 := unhide HM2
        have e : (fun q : ByteArray => if q.toList == ts[k].toList then some (ws[k], ls[k]) else FTo ts ws ls k q) = FTo ts ws ls (k + 1) := by
          funext q
          simp only [FTo, List.getD_eq_getElem?_getD, List.getElem?_eq_getElem hlt, List.getElem?_eq_getElem (show k < ws.length by omega), List.getElem?_eq_getElem (show k < ls.length by omega), Option.getD_some]
        rw [← e]
        exact hM3
      case measure => simp [intOf]; omega
    · have hkn : k = ts.length := by omega
      subst hkn
      have hbw : Below w.heap.size w wr := hb1.trans (hb.mono (by omega))
      have hres' := (hb.block w.heap.size (by omega)).trans hres
      have hcell : ∀ j u, (#[.bool false, .bool false, .bool false, .slice none 0 0, .map none, .bool false, .slice none 0 0] : Array Value)[j]? = some u → wr.cell? ⟨w.heap.size, j, none⟩ = some u := fun j u hu => by
        rw [cell_of_row _ _ j _ 34 (0, 0) hres']; exact hu
      have d0 := hcell 0 _ rfl
      have d1 := hcell 1 _ rfl
      have d2 := hcell 2 _ rfl
      have d3 := hcell 3 _ rfl
      have d4 := hcell 4 _ rfl
      have d5 := hcell 5 _ rfl
      have d6 := hcell 6 _ rfl
      have hfz : ∀ i, wr.frozen? ⟨w.heap.size, i, none⟩ = false := fun i => by simp [World.frozen?, hres']
      have hns : ∀ i s, wr.cell? ⟨w.heap.size, i, none⟩ ≠ some (.string s) := fun i s hc => by
        rw [cell_of_row _ _ i _ 34 (0, 0) hres'] at hc
        have hi : i < 7 := by simpa using (Array.getElem?_eq_some_iff.1 hc).1
        match i, hi with
        | 0, _ => cases hc
        | 1, _ => cases hc
        | 2, _ => cases hc
        | 3, _ => cases hc
        | 4, _ => cases hc
        | 5, _ => cases hc
        | 6, _ => cases hc
      have HM := hide hM
      have HNS := hide hns
      clear hM hcell hres hres' hT hW hL hb1 hb hns
      go_wp2
      refine bodyPost_ret (v := .agg #[.bool re, .bool ev, .bool aw, .slice aa al ac, .map (some (w.heap.size + 1)), .bool mw, .slice ma ml mc]) ?_ rfl ⟨w.heap.size + 1, rfl, ?_, ?_⟩
      · simp [results, Try.results8, go_sem, d0, d1, d2, d3, d4, d5, d6]
      · refine (unhide HM).other (N := w.heap.size) (fun k hk => ?_) (unhide HNS) (by omega)
        iterate 7 (rw [Below.heap_setCell _ _ _ _ hk])
      · refine Below.setCell ?_ (by exact Nat.le_refl _) _
        refine Below.setCell ?_ (by exact Nat.le_refl _) _
        refine Below.setCell ?_ (by exact Nat.le_refl _) _
        refine Below.setCell ?_ (by exact Nat.le_refl _) _
        refine Below.setCell ?_ (by exact Nat.le_refl _) _
        refine Below.setCell ?_ (by exact Nat.le_refl _) _
        exact hbw.setCell (by exact Nat.le_refl _) _
end Go.Proofs.Qxb6614881a
