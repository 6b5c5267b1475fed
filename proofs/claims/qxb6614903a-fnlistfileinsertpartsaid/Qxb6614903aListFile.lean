import Derived.Test.Qxb6614903aConcat
import Derived.BigRegion
namespace Go.Proofs.Qxb6614903a
open Go.RowKit

/-- The parts as views of the data in block g, from o on. -/
def Views (w : World) (P g o : Nat) (ps : List (List Int)) : Prop :=
  ∀ k (hk : k < ps.length), ∃ q, w.cell? ⟨P, k, none⟩ = some (.slice (some ⟨g, q, none⟩) ps[k].length ps[k].length) ∧ (0 < ps[k].length → q = o + tot ps k)
theorem Views.below {w w' : World} {P g o : Nat} {ps : List (List Int)} (h : Views w P g o ps) (hb : Below w.heap.size w w') : Views w' P g o ps := by
  intro k hk
  obtain ⟨q, h1, h2⟩ := h k hk
  exact ⟨q, cell_keep h1 hb, h2⟩
/-- A version of a list file. -/
structure Vers (w : World) (V g P : Nat) (hs : List Int) (ps : List (List Int)) : Prop where
  data : w.cell? ⟨V, 0, none⟩ = some (.slice (some ⟨g, 0, none⟩) (48 + sz (hs :: ps)) (48 + sz (hs :: ps)))
  parts : w.cell? ⟨V, 2, none⟩ = some (.slice (some ⟨P, 0, none⟩) ps.length ps.length)
  bytes : BytesAt w (some ⟨g, 0, none⟩) (text (hs :: ps))
  views : Views w P g (44 + hs.length) ps
theorem Vers.below {w w' : World} {V g P : Nat} {hs : List Int} {ps : List (List Int)} (h : Vers w V g P hs ps) (hb : Below w.heap.size w w') : Vers w' V g P hs ps :=
  ⟨cell_keep h.data hb, cell_keep h.parts hb, h.bytes.below hb, h.views.below hb⟩
theorem sz_cons (hs : List Int) (ps : List (List Int)) : sz (hs :: ps) = hs.length + sz ps := by
  unfold sz
  rw [List.flatten_cons, List.length_append]

/-- The views, as far as they have been laid into block P. -/
def ViewTo (w : World) (P g o : Nat) (ps : List (List Int)) (k : Nat) : Prop :=
  ∃ cur : Array Value, w.heap[P]? = some (.cells cur 22 (0, 0)) ∧ cur.size = ps.length ∧ ∀ j (hj : j < ps.length), j < k → ∃ q, cur[j]? = some (.slice (some ⟨g, q, none⟩) ps[j].length ps[j].length) ∧ (0 < ps[j].length → q = o + tot ps j)
theorem ViewTo.step {w : World} {P g o k : Nat} {ps : List (List Int)} (h : ViewTo w P g o ps k) (hk : k < ps.length) (q : Nat) (hq : 0 < ps[k].length → q = o + tot ps k) : ViewTo (w.setCell ⟨P, k, none⟩ (.slice (some ⟨g, q, none⟩) ps[k].length ps[k].length)) P g o ps (k + 1) := by
  obtain ⟨cur, h1, h2, h3⟩ := h
  refine ⟨cur.setIfInBounds k (.slice (some ⟨g, q, none⟩) ps[k].length ps[k].length), by simp [World.setCell, Array.getElem?_modify, h1], by simpa using h2, fun j hj hjk => ?_⟩
  by_cases e : j = k
  · subst e
    exact ⟨q, by rw [Array.getElem?_setIfInBounds_self_of_lt (by omega)], hq⟩
  · rw [Array.getElem?_setIfInBounds_ne (by omega)]
    exact h3 j hj (by omega)
theorem ViewTo.at {w : World} {P g o k : Nat} {ps : List (List Int)} (h : ViewTo w P g o ps k) (hk : k < ps.length) : (∃ v, w.cell? ⟨P, k, none⟩ = some v) ∧ w.frozen? ⟨P, k, none⟩ = false := by
  obtain ⟨cur, h1, h2, _⟩ := h
  refine ⟨?_, by simp [World.frozen?, h1]⟩
  rw [cell_of_row _ P _ _ 22 (0, 0) h1]
  exact ⟨cur[k], by simp [h2, hk]⟩
theorem ViewTo.done {w : World} {P g o : Nat} {ps : List (List Int)} (h : ViewTo w P g o ps ps.length) : Views w P g o ps := by
  obtain ⟨cur, h1, h2, h3⟩ := h
  intro k hk
  obtain ⟨q, g1, g2⟩ := h3 k hk hk
  exact ⟨q, by rw [cell_of_row _ P _ _ 22 (0, 0) h1, g1], g2⟩
/-- All but block P is as it was. -/
def But (P : Nat) (w w' : World) : Prop := ∀ b, b ≠ P → w'.heap[b]? = w.heap[b]?
theorem But.cell {P : Nat} {w w' : World} (h : But P w w') {a : Addr} (ha : a.block ≠ P) : w'.cell? a = w.cell? a := World.cell?_of_block (h _ ha)
theorem But.bytes {P g : Nat} {w w' : World} (h : But P w w') (hg : g ≠ P) {bs : List Int} (hb : BytesAt w (some ⟨g, 0, none⟩) bs) : BytesAt w' (some ⟨g, 0, none⟩) bs := by
  intro k hk
  obtain ⟨b, off, h1, h2⟩ := hb k hk
  refine ⟨b, off, h1, ?_⟩
  cases h1
  rw [h.cell hg]
  exact h2
theorem But.set {P : Nat} {w w' : World} (h : But P w w') (k : Nat) (v : Value) : But P w (w'.setCell ⟨P, k, none⟩ v) := fun b hb => by
  rw [← h b hb]
  simp [World.setCell, Array.getElem?_modify, Ne.symm hb]

theorem framed_len (ao : Option Addr) (cap n : Nat) (ps : List (List Int)) (w : World) (hn : ps.length = n) (hl : ps.length ≤ 4194304) (hs : sz ps ≤ 4194304) (h : PartsAt w ao ps) :
    Calls Try.prog 62 #[.slice ao n cap] w fun e w' => (∃ g, e = .returned (.slice (some ⟨g, 0, none⟩) (48 + sz ps) (48 + sz ps)) ∧ BytesAt w' (some ⟨g, 0, none⟩) (text ps)) ∧ Below w.heap.size w w' := by
  subst hn
  exact framed_any ao cap ps w hl hs h

set_option maxRecDepth 100000 in
set_option maxHeartbeats 2000000 in
theorem listFile_any (ha ao : Option Addr) (hc cap : Nat) (hs : List Int) (ps : List (List Int)) (w : World) (hl : ps.length ≤ 2097152) (hsz : hs.length + sz ps ≤ 2097152) (h1 : BytesAt w ha hs) (hh : ha = none → hc = 0) (h : PartsAt w ao ps) (hnil : ao = none → cap = 0) :
    Calls Try.prog 43 #[.slice ha hs.length hc, .slice ao ps.length cap, .nilIface] w fun e w' => (∃ V g P, e = .returned (.pointer (some ⟨V, 0, none⟩)) ∧ Vers w' V g P hs ps) ∧ Below w.heap.size w w' := by
  obtain ⟨i22, hi22, y0, y1, y2⟩ := info_parts Try.info22
  have by22 : i22.bytes * ps.length ≤ 281474976710656 := by rw [y2]; omega
  go_enter Try.func43, Try.ntmps43
  go_wp2_with fail
  obtain ⟨w1, hw1⟩ : ∃ w1, w1 = w.alloc (.cells #[.slice ha hs.length hc] 22) := ⟨_, rfl⟩
  have hb1 : Below w.heap.size w w1 := by rw [hw1]; exact (Below.refl _ _).alloc (Nat.le_refl _) _
  have d0 : w1.cell? ⟨w.heap.size, 0, none⟩ = some (.slice ha hs.length hc) := by rw [hw1, cell_of_row _ _ 0 _ 22 (0, 0) (heap_alloc_new w _)]; rfl
  have hs1 : w1.heap.size = w.heap.size + 1 := by rw [hw1]; simp
  rw [← hw1]
  obtain ⟨w2, hw2⟩ : ∃ w2, w2 = w1.alloc (.cells #[.slice (some ⟨w.heap.size, 0, none⟩) 1 1, .slice ao ps.length cap] 23) := ⟨_, rfl⟩
  have hb2 : Below w1.heap.size w1 w2 := by rw [hw2]; exact (Below.refl _ _).alloc (Nat.le_refl _) _
  have d1 : w2.cell? ⟨w.heap.size + 1, 0, none⟩ = some (.slice (some ⟨w.heap.size, 0, none⟩) 1 1) := by rw [hw2, ← hs1, cell_of_row _ _ 0 _ 23 (0, 0) (heap_alloc_new w1 _)]; rfl
  have d2 : w2.cell? ⟨w.heap.size + 1, 1, none⟩ = some (.slice ao ps.length cap) := by rw [hw2, ← hs1, cell_of_row _ _ 1 _ 23 (0, 0) (heap_alloc_new w1 _)]; rfl
  rw [← hw2]
  have d3 := cell_keep d0 hb2
  have hB2 : Below w.heap.size w w2 := hb1.trans (hb2.mono hb1.size)
  refine (concat_any w.heap.size (w.heap.size + 1) ha ao hc cap hs ps w2 hl (h1.below hB2) hh (by unfold maxLen; omega) (h.below hB2) hnil d1 d2 d3).mono ?_
  clear hw1 hw2 d0 d1 d2 d3 hb1 hb2 hs1
  rintro e w3 ⟨⟨g3, c3, rfl, hP3⟩, hb3⟩
  have hB3 : Below w.heap.size w w3 := hB2.trans (hb3.mono hB2.size)
  clear hB2 hb3
  have hlc : (hs :: ps).length = 1 + ps.length := by rw [List.length_cons, Nat.add_comm]
  go_wp2_with fail
  refine (framed_len (some ⟨g3, 0, none⟩) c3 (1 + ps.length) (hs :: ps) w3 hlc (by omega) (by rw [sz_cons]; omega) hP3).mono ?_
  clear hP3 hlc
  rintro e w4 ⟨⟨g, rfl, hbytes⟩, hb4⟩
  have hB4 : Below w.heap.size w w4 := hB3.trans (hb4.mono hB3.size)
  clear hB3 hb4
  obtain ⟨N, hN⟩ : ∃ N, N = 48 + sz (hs :: ps) := ⟨_, rfl⟩
  rw [← hN]
  have HN := hide hN
  have hN1 : 48 + hs.length + sz ps ≤ N := by rw [hN, sz_cons]; omega
  have hN2 : N ≤ 4194304 := by rw [hN, sz_cons]; omega
  clear hN
  go_upto_region 2 with fail
  obtain ⟨w5, hw5⟩ : ∃ w5, w5 = w4.alloc (.cells #[.slice (some ⟨g, 0, none⟩) N N, .nilIface, .slice none 0 0] 112) := ⟨_, rfl⟩
  rw [← hw5]
  have hb5 : Below w4.heap.size w4 w5 := by rw [hw5]; exact (Below.refl _ _).alloc (Nat.le_refl _) _
  have hB5 : Below w.heap.size w w5 := hB4.trans (hb5.mono hB4.size)
  have hV : w5.heap[w4.heap.size]? = some (.cells #[.slice (some ⟨g, 0, none⟩) N N, .nilIface, .slice none 0 0] 112 (0, 0)) := by rw [hw5]; exact heap_alloc_new w4 _
  have hVl : w5.heap.size = w4.heap.size + 1 := by rw [hw5]; simp
  have hg4 : g < w4.heap.size := by
    obtain ⟨b, off, e, c⟩ := hbytes 0 (by rw [text_len]; omega)
    cases e
    exact World.block_lt_of_cell? w4 _ c
  have hwV : w.heap.size ≤ w4.heap.size := hB4.size
  have hby5 := hbytes.below hb5
  obtain ⟨V, hVe⟩ : ∃ V, V = w4.heap.size := ⟨_, rfl⟩
  rw [← hVe] at hV hVl hg4 hwV
  rw [← hVe]
  clear hw5 hb5 hbytes hB4 hVe
  have hVs : ∀ w', w5.grownBy w' none → w'.heap[V]? = some (.cells #[.slice (some ⟨g, 0, none⟩) N N, .nilIface, .slice none 0 0] 112 (0, 0)) := fun w' gr => (gr.block V (by omega) (by simp)).trans hV
  have HVS := hide hVs
  have HV := hide hV
  clear hVs hV
  go_upto_region 3 with (at_make; refine wpList_make_full _ rfl _ _ 23 rfl w.heap.size 22 i22 _ 1 Try.underlying23 hi22 y0 y1 .i64 .i64 _ _ ps.length rfl rfl rfl rfl by22 (by unfold maxLen; omega) hB5.size ?_; intro w6 own6 gr6; have v6 := unhide HVS _ gr6; have f0 : w6.cell? ⟨V, 2, none⟩ = some (.slice none 0 0) := (cell_of_row _ _ 2 _ 112 (0, 0) v6); have f1 : w6.frozen? ⟨V, 2, none⟩ = false := (by simp [World.frozen?, v6]); clear v6)
  have hb6 : Below w.heap.size w w6 := hB5.grown gr6 hB5.size (by simp)
  have v6 := unhide HVS _ gr6
  rw [hVl] at own6
  obtain ⟨cur, hcur, hcl, -⟩ := own_block own6
  have hby6 : BytesAt w6 (some ⟨g, 0, none⟩) (text (hs :: ps)) := by
    intro k hk
    obtain ⟨b, off, e, c⟩ := hby5 k hk
    refine ⟨b, off, e, ?_⟩
    cases e
    rw [World.cell?_of_block (gr6.block g (by omega) (by simp))]
    exact c
  obtain ⟨w7, hw7⟩ : ∃ w7, w7 = w6.setCell ⟨V, 2, none⟩ (.slice (some ⟨V + 1, 0, none⟩) ps.length ps.length) := ⟨_, rfl⟩
  rw [← hw7]
  have hset : ∀ b, b ≠ V → w7.heap[b]? = w6.heap[b]? := fun b hb => by rw [hw7]; simp [World.setCell, Array.getElem?_modify, Ne.symm hb]
  have v7 : w7.heap[V]? = some (.cells #[.slice (some ⟨g, 0, none⟩) N N, .nilIface, .slice (some ⟨V + 1, 0, none⟩) ps.length ps.length] 112 (0, 0)) := by rw [hw7]; simp [World.setCell, Array.getElem?_modify, v6]
  have e0 : w7.cell? ⟨V, 0, none⟩ = some (.slice (some ⟨g, 0, none⟩) N N) := cell_of_row _ _ 0 _ 112 (0, 0) v7
  have e2 : w7.cell? ⟨V, 2, none⟩ = some (.slice (some ⟨V + 1, 0, none⟩) ps.length ps.length) := cell_of_row _ _ 2 _ 112 (0, 0) v7
  have hto : ViewTo w7 (V + 1) g (44 + hs.length) ps 0 := ⟨cur, (hset _ (by omega)).trans hcur, by simpa using hcl, fun j _ hj => by omega⟩
  have hby7 : BytesAt w7 (some ⟨g, 0, none⟩) (text (hs :: ps)) := But.bytes (P := V) hset (by omega) hby6
  have hb7 : Below w.heap.size w w7 := by rw [hw7]; exact hb6.setCell hwV _
  clear hw7 hset v7 v6 hby6 hby5 hcur hcl own6 hb6 f0 f1 gr6 HVS HV hB5 hVl by22 hi22 y0 y1 y2 h1 hh hnil
  go_wp2_with fail
  go_loopw [8, 9, 10, 31] (fun t _ _ i wr => ∃ (k n : Nat), k ≤ ps.length ∧ i = .int .i64 k ∧ t = .int .i64 n ∧ n = 44 + hs.length + tot ps k ∧ ViewTo wr (V + 1) g (44 + hs.length) ps k ∧ But (V + 1) w7 wr ∧ Below w.heap.size w wr) (fun _ _ _ i _ => ps.length - (intOf i).toNat)
  case atStart => exact ⟨0, 44 + hs.length, Nat.zero_le _, rfl, by go_num, by rw [tot_zero]; rfl, hto, fun _ _ => rfl, hb7⟩
  case round =>
    clear hto hb7
    rename World => wr
    obtain ⟨k, n, hk, rfl, rfl, hn, hto, hbut, hb⟩ := hrel
    have HN2 := hide hn
    clear hn
    by_cases hlt : k < ps.length
    · obtain ⟨b, off, a, c, rfl, c1, -, -, -⟩ := h.below hb k hlt
      have hpk := part_le ps k hlt
      have hnl : n + ps[k].length ≤ N := by have := unhide HN2; omega
      have k1 : (k : Int) < (ps.length : Int) := by omega
      have k2 : (0 : Int) ≤ (k : Int) := by omega
      have k3 : (n : Int) + (ps[k].length : Int) ≤ (N : Int) := by omega
      have k4 : (n : Int) ≤ (n : Int) + (ps[k].length : Int) := by omega
      have k5 : (0 : Int) ≤ (n : Int) := by omega
      have f0 := (hbut.cell (a := ⟨V, 0, none⟩) (by simp)).trans e0
      have f2 := (hbut.cell (a := ⟨V, 2, none⟩) (by simp)).trans e2
      obtain ⟨⟨v, f3⟩, f4⟩ := hto.at hlt
      have HTO := hide hto
      have HBUT := hide hbut
      clear hpk hto hbut h hby7 e0 e2
      go_wp2_with fail
      go_region
      obtain ⟨q, hq, hq2⟩ : ∃ q, (if ps[k] = [] then some (⟨g, 0, none⟩ : Addr) else some ⟨g, n, none⟩) = some ⟨g, q, none⟩ ∧ (0 < ps[k].length → q = 44 + hs.length + tot ps k) := by
        by_cases e : ps[k] = []
        · exact ⟨0, by rw [if_pos e], fun h => by rw [e] at h; simp at h⟩
        · exact ⟨n, by rw [if_neg e], fun _ => unhide HN2⟩
      rw [hq]
      have t1 : ViewTo (wr.setCell ⟨V + 1, k, none⟩ (.slice (some ⟨g, q, none⟩) ps[k].length ps[k].length)).drew (V + 1) g (44 + hs.length) ps (k + 1) := (unhide HTO).step hlt q hq2
      have t2 : But (V + 1) w7 (wr.setCell ⟨V + 1, k, none⟩ (.slice (some ⟨g, q, none⟩) ps[k].length ps[k].length)).drew := (unhide HBUT).set k _
      have t3 : Below w.heap.size w (wr.setCell ⟨V + 1, k, none⟩ (.slice (some ⟨g, q, none⟩) ps[k].length ps[k].length)).drew := (hb.setCell (p := ⟨V + 1, k, none⟩) (Nat.le_succ_of_le hwV) _).drew
      obtain ⟨w8, hw8⟩ : ∃ w8, w8 = (wr.setCell ⟨V + 1, k, none⟩ (.slice (some ⟨g, q, none⟩) ps[k].length ps[k].length)).drew := ⟨_, rfl⟩
      rw [← hw8] at t1 t2 t3 ⊢
      have T1 := hide t1
      have T2 := hide t2
      clear hw8 hq hq2 f0 f2 f3 f4 HTO HBUT t1 t2
      go_wp2
      go_roundw
      case rel => exact ⟨k + 1, n + ps[k].length, hlt, by go_num, by go_num, by rw [tot_succ ps k hlt, unhide HN2]; omega, unhide T1, unhide T2, t3⟩
      case measure => simp [intOf]; omega
    · have e : k = ps.length := by omega
      rw [e] at hto
      have hv : Vers wr V g (V + 1) hs ps := ⟨by rw [← unhide HN]; exact (hbut.cell (a := ⟨V, 0, none⟩) (by simp)).trans e0, (hbut.cell (a := ⟨V, 2, none⟩) (by simp)).trans e2, hbut.bytes (by omega) hby7, hto.done⟩
      have HVV := hide hv
      clear hv hto hbut h hby7 e0 e2 e
      go_wp2
      go_ret
      exact ⟨⟨V, g, V + 1, rfl, unhide HVV⟩, hb⟩
end Go.Proofs.Qxb6614903a
