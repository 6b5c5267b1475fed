import Derived.Test.Qxb6614794aBytesB
import Derived.OwnWalk
import Derived.Deep.CutBlock
import Derived.Deep.DeepCutAuto
namespace Go.Proofs.Qxb6614794a
open Go.RowKit

theorem hide {p : Prop} (h : p) : Hid p := h
theorem unhide {p : Prop} (h : Hid p) : p := h

def ptCells (p : Part) : List Value := [.string p.id, .string p.acc, .string p.cls, .string p.outl, .int .i32 p.due, .int .i32 p.traded, .int .i64 p.shares]
theorem pt_len (p : Part) : (ptCells p).length = 7 := rfl
theorem Try.info27 : (Try.prog.info? 27).map (fun i => (i.zero, i.size, i.bytes)) = some (some (.agg #[.string ⟨#[]⟩, .string ⟨#[]⟩, .string ⟨#[]⟩, .string ⟨#[]⟩, .int .i32 0, .int .i32 0, .int .i64 0]), 7, 80) := by kernel_rfl

theorem pt_one (p : Part) : ∀ u ∈ ptCells p, u.oneCell' = true := by
  intro u hu; simp [ptCells] at hu
  rcases hu with rfl | rfl | rfl | rfl | rfl | rfl | rfl <;> rfl
theorem pts_one (l : List Part) : ∀ u ∈ l.flatMap ptCells, u.oneCell' = true := by
  intro u hu
  obtain ⟨p, _, hp⟩ := List.mem_flatMap.1 hu
  exact pt_one p u hp
theorem pts_len (l : List Part) : (l.flatMap ptCells).length = l.length * 7 := by
  induction l with
  | nil => rfl
  | cons p l ih => rw [List.flatMap_cons, List.length_append, ih, pt_len, List.length_cons]; omega

theorem PartAt.cellAt {w : World} {b o : Nat} {p : Part} (h : PartAt w b o p) : ∀ c (_ : c < 7) u, (ptCells p)[c]? = some u → w.cell? ⟨b, o + c, none⟩ = some u := by
  obtain ⟨h0, h1, h2, h3, h4, h5, h6⟩ := h
  intro c hc u hu
  match c, hc with
  | 0, _ => simp [ptCells] at hu; subst hu; exact h0
  | 1, _ => simp [ptCells] at hu; subst hu; exact h1
  | 2, _ => simp [ptCells] at hu; subst hu; exact h2
  | 3, _ => simp [ptCells] at hu; subst hu; exact h3
  | 4, _ => simp [ptCells] at hu; subst hu; exact h4
  | 5, _ => simp [ptCells] at hu; subst hu; exact h5
  | 6, _ => simp [ptCells] at hu; subst hu; exact h6

/-- The cells of parts that lie in memory, as one list: what an append asks of its source. -/
theorem PartsAt.news {w : World} {ao : Option Addr} {l : List Part} (h : PartsAt w ao l) : ∀ ad, ao = some ad → ∀ j u, (l.flatMap ptCells)[j]? = some u → w.cell? (ad.add j) = some u := by
  intro ad had j u hu
  have hj : j < l.length * 7 := by
    have := (List.getElem?_eq_some_iff.1 hu).1
    rwa [pts_len] at this
  have hk : j / 7 < l.length := by omega
  obtain ⟨b, off, h1, h2⟩ := h (j / 7) hk
  rw [h1] at had
  obtain rfl := Option.some.inj had
  have e : j / 7 * 7 + j % 7 = j := by omega
  rw [← e, flat_at ptCells 7 pt_len l (j / 7) (j % 7) hk (by omega)] at hu
  have := h2.cellAt (j % 7) (by omega) u hu
  rw [Addr.add_lit]
  rw [show off + j = off + j / 7 * 7 + j % 7 by omega]
  exact this

theorem own_parts {w : World} {B : Nat} {v : Value} {l : List Part} {n : Nat} (h : w.ownsRow B 27 7 v n (l.flatMap ptCells)) (hn : l.length = n) : ∀ a n' c, v = .slice a n' c → PartsAt w a l := by
  subst hn
  rintro a n' c rfl k hk
  obtain ⟨g, cap, hv, _, _⟩ := h.form (by omega)
  obtain ⟨rfl, rfl, rfl⟩ := Value.slice.inj hv
  have key : ∀ j (hj : j < 7) u, (ptCells l[k])[j]? = some u → w.cell? ⟨g, k * 7 + j, none⟩ = some u := by
    intro j hj u hu
    have := h.cells (g := g) rfl (k * 7 + j) u (by rw [flat_at ptCells 7 pt_len l k j hk hj]; exact hu)
    rwa [Addr.add_lit, Nat.zero_add] at this
  refine ⟨g, 0, rfl, ?_⟩
  rw [Nat.zero_add]
  exact ⟨key 0 (by decide) _ rfl, key 1 (by decide) _ rfl, key 2 (by decide) _ rfl, key 3 (by decide) _ rfl, key 4 (by decide) _ rfl, key 5 (by decide) _ rfl, key 6 (by decide) _ rfl⟩

theorem PartAt.lits {w : World} {g : Nat} {p : Part} (h : PartAt w g 0 p) : w.cell? ⟨g, 0, none⟩ = some (.string p.id) ∧ w.cell? ⟨g, 1, none⟩ = some (.string p.acc) ∧ w.cell? ⟨g, 2, none⟩ = some (.string p.cls) ∧ w.cell? ⟨g, 3, none⟩ = some (.string p.outl) ∧
    w.cell? ⟨g, 4, none⟩ = some (.int .i32 p.due) ∧ w.cell? ⟨g, 5, none⟩ = some (.int .i32 p.traded) ∧ w.cell? ⟨g, 6, none⟩ = some (.int .i64 p.shares) := h

theorem ins_at (ps : List Part) (x : Part) (c : Nat) (hc : c ≤ ps.length) (h : c < (ps.take c ++ x :: ps.drop c).length) : (ps.take c ++ x :: ps.drop c)[c] = x := by
  rw [List.getElem_append_right (by simp; omega)]
  simp [Nat.min_eq_left hc]
theorem ins_lt (ps : List Part) (x : Part) (c k : Nat) (hk : k < ps.length) (hkc : k < c) (h : k < (ps.take c ++ x :: ps.drop c).length) : (ps.take c ++ x :: ps.drop c)[k] = ps[k] := by
  rw [List.getElem_append_left (by simp; omega), List.getElem_take]
theorem ins_gt (ps : List Part) (x : Part) (c k : Nat) (hk : k < ps.length) (hkc : c ≤ k) (h : k + 1 < (ps.take c ++ x :: ps.drop c).length) : (ps.take c ++ x :: ps.drop c)[k + 1] = ps[k] := by
  rw [List.getElem_append_right (by simp; omega)]
  have e : k + 1 - (List.take c ps).length = (k - c) + 1 := by simp; omega
  simp only [e, List.getElem_cons_succ]
  exact drop_at ps c k hkc hk

theorem RegOf.below {w w' : World} {R : Nat} {ps : List Part} (h : RegOf w R ps) (hb : Below w.heap.size w w') : RegOf w' R ps := by
  obtain ⟨ca, m, ccap, h0, h1, h2, hk⟩ := h
  have hR := World.block_lt_of_cell? w _ h0
  refine ⟨ca, m, ccap, (hb.cell (p := ⟨R, 12, none⟩) hR).trans h0, (hb.cell (p := ⟨R, 13, none⟩) hR).trans h1, (hb.cell (p := ⟨R, 14, none⟩) hR).trans h2, fun k hkl => ?_⟩
  obtain ⟨g, gk, len, cap, e1, e2, e3, e4, e5⟩ := hk k hkl
  exact ⟨g, gk, len, cap, e1, e2, (hb.cell (World.block_lt_of_cell? w _ e3)).trans e3, e4, e5.below hb (World.block_lt_of_cell? w _ e5.1)⟩

theorem block_set {w : World} {g i : Nat} {cur : Array Value} {t : TypeId} {fr : Nat × Nat} (h : w.heap[g]? = some (.cells cur t fr)) (v : Value) : (w.setCell ⟨g, i, none⟩ v).heap[g]? = some (.cells (cur.setIfInBounds i v) t fr) := by
  simp [World.setCell, Array.getElem?_modify, h]

/-- The listed parts that the loop of writes has not come to read as they did; their block is one of the call's own from B on. -/
def WOk (w : World) (B : Nat) (a : Option Addr) (ps : List Part) (k : Nat) : Prop :=
  ∀ j (hj : j < ps.length), ∃ g cur, a = some ⟨g, 0, none⟩ ∧ B ≤ g ∧ w.heap[g]? = some (.cells cur 39 (0, 0)) ∧ ps.length * 13 ≤ cur.size ∧ (k ≤ j → cur[j * 13 + 2]? = some (.string ps[j].id) ∧ cur[j * 13 + 9]? = some (.int .i32 ps[j].due))

theorem WOk.start {w : World} {B c : Nat} {a : Option Addr} {ps : List Part} (h : w.ownsRow B 39 13 (.slice a ps.length c) ps.length (ps.flatMap dpCells)) : WOk w B a ps 0 := by
  intro j hj
  rcases h.2 with ⟨_, h2⟩ | ⟨g, cap, cur, h1, hb, hg, hl, _, hs, ht⟩
  · omega
  · obtain ⟨rfl, _, rfl⟩ := Value.slice.inj h1
    have key : ∀ q (hq : q < 13) u, (dpCells ps[j])[q]? = some u → cur[j * 13 + q]? = some u := by
      intro q hq u hu
      rw [← flat_at dpCells 13 dp_len1 ps j q hj hq, ← ht, List.getElem?_take] at hu
      split at hu
      · simpa using hu
      · cases hu
    have : ps.length * 13 ≤ cur.size := by rw [hs]; exact Nat.mul_le_mul_right 13 hl
    exact ⟨g, cur, rfl, hb, hg, this, fun _ => ⟨key 2 (by decide) _ rfl, key 9 (by decide) _ rfl⟩⟩

theorem WOk.step {w : World} {B g k : Nat} {ps : List Part} (h : WOk w B (some ⟨g, 0, none⟩) ps k) (u v : Value) : WOk ((w.setCell ⟨g, k * 13 + 2, none⟩ u).setCell ⟨g, k * 13 + 9, none⟩ v) B (some ⟨g, 0, none⟩) ps (k + 1) := by
  intro j hj
  obtain ⟨g', cur, he, hb, hg, hs, hc⟩ := h j hj
  obtain rfl : g = g' := by simpa using he
  refine ⟨g, _, rfl, hb, block_set (block_set hg u) v, by simpa using hs, fun hkj => ?_⟩
  obtain ⟨h1, h2⟩ := hc (by omega)
  refine ⟨?_, ?_⟩
  · rw [Array.getElem?_setIfInBounds_ne (by omega), Array.getElem?_setIfInBounds_ne (by omega)]; exact h1
  · rw [Array.getElem?_setIfInBounds_ne (by omega), Array.getElem?_setIfInBounds_ne (by omega)]; exact h2

theorem WOk.at {w : World} {B k : Nat} {a : Option Addr} {ps : List Part} (h : WOk w B a ps k) (hk : k < ps.length) : ∃ g, a = some ⟨g, 0, none⟩ ∧ B ≤ g ∧ w.cell? ⟨g, k * 13 + 2, none⟩ = some (.string ps[k].id) ∧ w.cell? ⟨g, k * 13 + 9, none⟩ = some (.int .i32 ps[k].due) ∧
    (∀ i, w.frozen? ⟨g, i, none⟩ = false) := by
  obtain ⟨g, cur, he, hb, hg, hs, hc⟩ := h k hk
  obtain ⟨h1, h2⟩ := hc (Nat.le_refl _)
  refine ⟨g, he, hb, ?_, ?_, fun i => by simp [World.frozen?, hg]⟩
  · rw [cell_of_row _ g _ _ 39 (0, 0) hg]; exact h1
  · rw [cell_of_row _ g _ _ 39 (0, 0) hg]; exact h2

theorem Small.le {ps : List Part} (h : Small ps ps.length) (k : Nat) (hk : k < ps.length) : ps[k].id.size ≤ 1048576 := h k hk hk

set_option maxRecDepth 100000 in
set_option maxHeartbeats 8000000 in
theorem law4 (ao : Option Addr) (cap : Nat) (x : Part) (cut : Int) (ps : List Part) (w : World) (hcap : ps.length ≤ cap) (hcm : cap ≤ maxLen) (hnil : ao = none → cap = 0) (h : PartsAt w ao ps) :
    Calls Try.prog 4 #[.slice ao ps.length cap, .agg #[.string x.id, .string x.acc, .string x.cls, .string x.outl, .int .i32 x.due, .int .i32 x.traded, .int .i64 x.shares], .int .i64 cut] w
      fun e w' => e = .returned (.bool true) ∧ Below w.heap.size w w' := by
  unfold maxLen at hcm
  go_enter Try.func4, Try.ntmps4
  go_wp2_with fail
  obtain ⟨w0, hw0⟩ : ∃ w0, w0 = w.alloc (.cells #[.string x.id, .string x.acc, .string x.cls, .string x.outl, .int .i32 x.due, .int .i32 x.traded, .int .i64 x.shares] 27) := ⟨_, rfl⟩
  have hX : PartAt w0 w.heap.size 0 x := by
    subst hw0
    have k0 : ∀ j u, (#[.string x.id, .string x.acc, .string x.cls, .string x.outl, .int .i32 x.due, .int .i32 x.traded, .int .i64 x.shares] : Array Value)[j]? = some u → (w.alloc (.cells #[.string x.id, .string x.acc, .string x.cls, .string x.outl, .int .i32 x.due, .int .i32 x.traded, .int .i64 x.shares] 27)).cell? ⟨w.heap.size, j, none⟩ = some u :=
      fun j u hu => by rw [cell_of_row _ w.heap.size j _ 27 (0, 0) (heap_alloc_new w _)]; exact hu
    exact ⟨k0 0 _ rfl, k0 1 _ rfl, k0 2 _ rfl, k0 3 _ rfl, k0 4 _ rfl, k0 5 _ rfl, k0 6 _ rfl⟩
  have hB0 : Below w.heap.size w w0 := by subst hw0; exact (Below.refl _ _).alloc (Nat.le_refl _) _
  have hP : PartsAt w0 ao ps := h.below hB0
  rw [← hw0]
  generalize hN : w.heap.size = N at hX ⊢
  have HN : Hid (w.heap.size = N) := hN
  have HB0 : Hid (Below w.heap.size w w0) := hB0
  clear hw0 h hN hB0
  refine (bytes10_any ao cap cut x ps w0 (by unfold maxLen; omega) hP).mono ?_
  rintro e w1 ⟨⟨r, rfl, hsm⟩, hB1⟩
  cases r with
  | false =>
    go_wp2
    go_ret
    exact ⟨rfl, HB0.out.trans (hB1.mono HB0.out.size)⟩
  | true =>
  replace hsm := hsm rfl
  have HSM : Hid (Small ps ps.length) := hsm
  clear hsm
  by_cases hlen : (65536 : Int) < (ps.length : Int)
  · go_wp2
    go_ret
    exact ⟨rfl, HB0.out.trans (hB1.mono HB0.out.size)⟩
  go_wp2_with fail
  go_loopw [7, 8, 9] (fun t o i wr => ∃ (k : Nat) (tt : Int) (oo : Bool), k ≤ ps.length ∧ i = .int .i64 k ∧ t = .int .i64 tt ∧ o = .bool oo ∧ Below w0.heap.size w0 wr) (fun _ _ i _ => ps.length - (intOf i).toNat)
  case atStart => exact ⟨0, 0, false, Nat.zero_le _, rfl, rfl, rfl, hB1⟩
  case round =>
    clear hB1
    obtain ⟨k, tt, oo, hk, rfl, rfl, rfl, hb⟩ := hrel
    by_cases hlt : k < ps.length
    · obtain ⟨b, off, rfl, hp⟩ := hP k hlt
      obtain ⟨p1, p2, p3, p4, p5, p6, p7⟩ := hp.below hb (World.block_lt_of_cell? w0 _ hp.1)
      clear hP hp hX
      go_wp2_with fail
      refine (partBytes_any tt ps[k] _).mono ?_
      rintro e w2 ⟨⟨t1, o1, rfl⟩, hb1⟩
      have hb2 := hb.trans (hb1.mono hb.size)
      clear p1 p2 p3 p4 p5 p6 p7 hb hb1
      cases o1 with
      | true =>
        go_wp2
        go_ret
        exact ⟨rfl, HB0.out.trans (hb2.mono HB0.out.size)⟩
      | false =>
        go_wp2
        go_roundw
        case rel => exact ⟨k + 1, _, _, hlt, by go_num, rfl, rfl, hb2⟩
        case measure => simp [intOf]; omega
    · have hxb := World.block_lt_of_cell? w0 _ hX.1
      obtain ⟨p1, p2, p3, p4, p5, p6, p7⟩ := hX.below hb hxb
      go_wp2_with fail
      refine (partBytes_any tt x _).mono ?_
      rintro e w2 ⟨⟨t1, o1, rfl⟩, hb1⟩
      have hb2 := hb.trans (hb1.mono hb.size)
      clear p1 p2 p3 p4 p5 p6 p7 hb hb1 hlt hk
      cases o1 with
      | true =>
        go_wp2
        go_ret
        exact ⟨rfl, HB0.out.trans (hb2.mono HB0.out.size)⟩
      | false =>
      by_cases hc0 : cut < 0
      · go_wp2
        go_ret
        exact ⟨rfl, HB0.out.trans (hb2.mono HB0.out.size)⟩
      by_cases hc1 : (ps.length : Int) < cut
      · go_wp2
        go_ret
        exact ⟨rfl, HB0.out.trans (hb2.mono HB0.out.size)⟩
      obtain ⟨c, rfl⟩ := Int.eq_ofNat_of_zero_le (by omega : 0 ≤ cut)
      have hcn : c ≤ ps.length := by omega
      clear hc0 hc1
      obtain ⟨-, -, -, -, -, -, p7⟩ := hX.below hb2 hxb
      by_cases hxs : x.shares < 0
      · go_wp2
        go_ret
        exact ⟨rfl, HB0.out.trans (hb2.mono HB0.out.size)⟩
      go_wp2_with fail
      clear p7
      go_loop [10] (fun i => ∃ (k : Nat), k ≤ ps.length ∧ i = .int .i64 k) (fun i => ps.length - (intOf i).toNat)
      case atStart => exact ⟨0, Nat.zero_le _, rfl⟩
      case round =>
        obtain ⟨k2, hk2, rfl⟩ := hrel
        by_cases hlt2 : k2 < ps.length
        · obtain ⟨b, off, rfl, hp⟩ := hP k2 hlt2
          obtain ⟨-, -, -, -, -, -, p7⟩ := hp.below hb2 (World.block_lt_of_cell? w0 _ hp.1)
          clear hP hp
          by_cases hneg : ps[k2].shares < 0
          · go_wp2
            go_ret
            exact ⟨rfl, HB0.out.trans (hb2.mono HB0.out.size)⟩
          · go_wp2
            go_round
            case rel => exact ⟨k2 + 1, hlt2, by go_num⟩
            case measure => simp [intOf]; omega
        · have hP2 := hP.below hb2
          have hX2 := hX.below hb2 hxb
          have hxb2 : N < w2.heap.size := Nat.lt_of_lt_of_le hxb hb2.size
          clear hP hX
          obtain ⟨i27, hi, hz0, hz1, hz2⟩ := info_parts Try.info27
          have hby : i27.bytes * (ps.length + 1) ≤ 281474976710656 := by rw [hz2]; omega
          have hnT : ao = none → c = 0 ∧ cap = 0 := fun e => by have := hnil e; omega
          have hnD : (if cap = c then ao else ao.map (·.add (c * 7))) = none → ps.length - c = 0 ∧ cap - c = 0 := fun e => by
            have : ao = none := by
              split at e
              · exact e
              · simpa using e
            have := hnil this
            omega
          have HNT := hide hnT
          have HND := hide hnD
          have hlT : ((ps.take c).flatMap ptCells).length = c * 7 := by rw [pts_len]; simp; omega
          have hlD : ((ps.drop c).flatMap ptCells).length = (ps.length - c) * 7 := by rw [pts_len]; simp
          have HLT := hide hlT
          have HLD := hide hlD
          clear hnT hnD hlT hlD hnil
          go_wp2_with (first
            | (at_make; refine wpList_make_own _ rfl _ _ 22 rfl w2.heap.size 27 i27 _ 7 Try.underlying22 hi hz0 hz1 .i64 .i64 _ (ps.length + 1) rfl rfl (by omega) hby (by unfold maxLen; omega) (Nat.le_refl _) ?_; intro w3 hown3 hgr3; have bl3 : Below w2.heap.size w2 w3 := (Below.refl _ _).grown hgr3 (Nat.le_refl _) (by simp); have hP3 := hP2.below bl3)
            | (at_builtin; (refine wpList_append_fits_any _ rfl (.tmp 77) (.tmp 80) 22 rfl w2.heap.size 27 i27 7 Try.underlying22 hi hz1 w2.heap.size 0 (ps.length + 1) [] rfl hown3 ao c cap ((ps.take c).flatMap ptCells) rfl (unhide HLT) (unhide HNT) (hP3.take c).news (pts_one _) (by omega) ?_); intro w4 hown4 hgr4; simp only [Nat.zero_add, List.nil_append] at hown4; have bl4 : Below w2.heap.size w2 w4 := bl3.grown hgr4 bl3.size (by simp); obtain ⟨x0, x1, x2, x3, x4, x5, x6⟩ := (hX2.below bl4 hxb2).lits)
            | (at_builtin; (refine wpList_append_fits _ rfl (.tmp 82) (.tmp 84) 22 rfl w2.heap.size 27 i27 7 Try.underlying22 hi hz1 w2.heap.size c (ps.length + 1) _ rfl (hown4.alloc _) ⟨w4.heap.size, 0, none⟩ 1 1 (ptCells x) rfl rfl (World.news_of_block (heap_alloc_new w4 _)) (pt_one _) (by omega) ?_); intro w5 hown5 hgr5; have bl5 : Below w2.heap.size w2 w5 := (bl4.alloc bl4.size _).grown hgr5 (by have := bl4.size; simp; omega) (by simp); have hP5 := hP2.below bl5)
            | (at_builtin; (refine wpList_append_fits_any _ rfl (.tmp 86) (.tmp 89) 22 rfl w2.heap.size 27 i27 7 Try.underlying22 hi hz1 w2.heap.size (c + 1) (ps.length + 1) _ rfl hown5 (if cap = c then ao else ao.map (·.add (c * 7))) (ps.length - c) (cap - c) ((ps.drop c).flatMap ptCells) rfl (unhide HLD) (unhide HND) (hP5.drop c cap hcap).news (pts_one _) (by omega) ?_); intro w6 hown6 hgr6; generalize (if cap = c then ao else Option.map (fun x => x.add (c * 7)) ao) = aD))
          have bl6 : Below w2.heap.size w2 w6 := bl5.grown hgr6 bl5.size (by simp)
          have hP6 := hP2.below bl6
          have hX6 := hX2.below bl6 hxb2
          have hB6 := hb2.trans (bl6.mono hb2.size)
          have hlw : (ps.take c ++ x :: ps.drop c).length = c + 1 + (ps.length - c) := by simp; omega
          have hPw : PartsAt w6 (some ⟨w2.heap.size, 0, none⟩) (ps.take c ++ x :: ps.drop c) := own_parts (by simpa [List.flatMap_append, List.flatMap_cons, List.append_assoc] using hown6) hlw _ _ _ rfl
          have HLW := hide hlw
          clear hlw x0 x1 x2 x3 x4 x5 x6 hown3 hown4 hown5 hown6 hgr3 hgr4 hgr5 hgr6 bl3 bl4 bl5 bl6 hP3 hP5 hP2 hX2 hxb2 hb2 HLT HLD HNT HND hi hz0 hz1 hz2 hby
          refine (build_any ao cap ps _ hP6 (by omega)).mono ?_
          rintro e w7 ⟨R1, rfl, hR1, hb7⟩
          replace hP6 := hP6.below hb7
          replace hPw := hPw.below hb7
          have hN6 : N < w6.heap.size := World.block_lt_of_cell? w6 _ hX6.1
          replace hX6 := hX6.below hb7 hN6
          replace hB6 := hB6.trans (hb7.mono hB6.size)
          have hN7 : N < w7.heap.size := Nat.lt_of_lt_of_le hN6 hb7.size
          have HP7 := hide hP6
          have HB7 := hide hB6
          clear hb7 hN6
          go_wp2_with fail
          refine (deferred_any R1 ps _ hR1 (by omega)).mono ?_
          rintro e w8 ⟨v1, rfl, hv1, hb8⟩
          obtain ⟨a1, c1, rfl, hd1⟩ := own_dps hv1
          replace hP6 := hP6.below hb8
          replace hPw := hPw.below hb8
          replace hX6 := hX6.below hb8 hN7
          have hN8 : N < w8.heap.size := Nat.lt_of_lt_of_le hN7 hb8.size
          have hR8 := hb8
          have hB8 := hB6.trans (hb8.mono hB6.size)
          clear hb8 hB6 hN7
          go_wp2_with fail
          refine (build_len (some ⟨w2.heap.size, 0, none⟩) (ps.length + 1) (c + 1 + (ps.length - c)) (ps.take c ++ x :: ps.drop c) (unhide HLW) _ hPw (by omega)).mono ?_
          rintro e w9 ⟨R2, rfl, hR2, hb9⟩
          replace hP6 := hP6.below hb9
          replace hX6 := hX6.below hb9 hN8
          replace hd1 := hd1.below hb9
          replace hv1 := own_below hv1 hb9
          replace hR8 := hR8.trans (hb9.mono hR8.size)
          have hB9 := hB8.trans (hb9.mono hB8.size)
          have hN9 : N < w9.heap.size := Nat.lt_of_lt_of_le hN8 hb9.size
          clear hPw hb9 hN8 hB8
          go_wp2_with fail
          refine (deferred_dps R2 (ps.take c ++ x :: ps.drop c) _ hR2 (by rw [unhide HLW]; omega)).mono ?_
          rintro e w10 ⟨a2, c2, rfl, hd2, hb10⟩
          have hl1 : (ps.take c ++ x :: ps.drop c).length = ps.length + 1 := by rw [unhide HLW]; omega
          rw [hl1]
          replace hP6 := hP6.below hb10
          replace hX6 := hX6.below hb10 hN9
          replace hd1 := hd1.below hb10
          replace hv1 := own_below hv1 hb10
          replace hR8 := hR8.trans (hb10.mono hR8.size)
          have hB10 := hB9.trans (hb10.mono hB9.size)
          have hN10 : N < w10.heap.size := Nat.lt_of_lt_of_le hN9 hb10.size
          have HL1 := hide hl1
          clear hb10 hN9 hB9 hR2 hl1 HLW
          have e1 : ((ps.length : Int) != (ps.length : Int)) = false := by simp
          have e2 : ((ps.length : Int) + 1 != (ps.length : Int) + 1) = false := by simp
          go_wp2_with fail
          clear e1 e2
          obtain ⟨g2, hg2, hx2⟩ := hd2 c (by rw [unhide HL1]; omega)
          rw [ins_at ps x c hcn] at hx2
          have HD2 := hide hd2
          subst hg2
          clear hd2
          have kI : (c : Int) < (ps.length : Int) + 1 := by omega
          have kJ : (0 : Int) ≤ (c : Int) := by omega
          have HC : DpAt w10.drew g2 (c * 13) x ∧ PartAt w10.drew N 0 x := ⟨hx2, hX6⟩
          have hg2l : g2 < w10.drew.heap.size := hx2.lt
          have hN10' : N < w10.drew.heap.size := hN10
          go_region_held3 (fun w' => w'.cell? ⟨g2, c * 13, none⟩ = some (.int .i32 0) ∧ w'.cell? ⟨g2, c * 13 + 1, none⟩ = some (.bool false) ∧ w'.cell? ⟨g2, c * 13 + 2, none⟩ = some (.string x.id) ∧ w'.cell? ⟨g2, c * 13 + 3, none⟩ = some (.string x.acc) ∧ w'.cell? ⟨g2, c * 13 + 4, none⟩ = some (.string x.cls) ∧ w'.cell? ⟨g2, c * 13 + 5, none⟩ = some (.string x.outl) ∧ w'.cell? ⟨g2, c * 13 + 6, none⟩ = some (.string redeem) ∧ w'.cell? ⟨g2, c * 13 + 7, none⟩ = some (.string ⟨#[]⟩) ∧ w'.cell? ⟨g2, c * 13 + 8, none⟩ = some (.string ⟨#[]⟩) ∧ w'.cell? ⟨g2, c * 13 + 9, none⟩ = some (.int .i32 x.due) ∧ w'.cell? ⟨g2, c * 13 + 10, none⟩ = some (.int .i32 x.traded) ∧ w'.cell? ⟨g2, c * 13 + 11, none⟩ = some (.int .i64 x.shares) ∧ w'.cell? ⟨g2, c * 13 + 12, none⟩ = some (.int .i64 2) ∧ w'.cell? ⟨N, 0, none⟩ = some (.string x.id) ∧ w'.cell? ⟨N, 1, none⟩ = some (.string x.acc) ∧ w'.cell? ⟨N, 2, none⟩ = some (.string x.cls) ∧ w'.cell? ⟨N, 3, none⟩ = some (.string x.outl) ∧ w'.cell? ⟨N, 4, none⟩ = some (.int .i32 x.due) ∧ w'.cell? ⟨N, 5, none⟩ = some (.int .i32 x.traded) ∧ w'.cell? ⟨N, 6, none⟩ = some (.int .i64 x.shares)) (first | exact flat20 HC.1 HC.2 | exact flat20 (HC.1.below hb11 hg2l) (HC.2.below hb11 hN10'))
            (first
              | (go_at_call 9; refine (sameView_any x _).mono ?_; rintro e w11 ⟨rfl, hb11⟩))
          go_wp2_with fail
          have hb11' : Below w10.heap.size w10 w11 := ((Below.refl w10.heap.size w10).drew).trans hb11
          replace hP6 := hP6.below hb11'
          replace hd1 := hd1.below hb11'
          replace hv1 := own_below hv1 hb11'
          replace hR8 := hR8.trans (hb11'.mono hR8.size)
          have hB11 := hB10.trans (hb11'.mono hB10.size)
          have hd2 : DpsAt w11 (some ⟨g2, 0, none⟩) (ps.take c ++ x :: ps.drop c) := (unhide HD2).below hb11'
          replace HD2 := hide hd2
          clear HC hx2 hX6 hb11 hb11' hB10 hg2l hN10' hN10 kI kJ hd2
          go_loopw [15] (fun i wr => ∃ k : Nat, k ≤ ps.length ∧ i = .int .i64 k ∧ Below w11.heap.size w11 wr) (fun i _ => ps.length - (intOf i).toNat)
          case atStart => exact ⟨0, Nat.zero_le _, rfl, Below.refl _ _⟩
          case round =>
            obtain ⟨k, hk, rfl, hbr⟩ := hrel
            by_cases hlt : k < ps.length
            · obtain ⟨b, off, rfl, hp⟩ := hP6 k hlt
              obtain ⟨g1, rfl, hdd⟩ := hd1 k hlt
              have hbl := World.block_lt_of_cell? w11 _ hp.1
              have hgl := hdd.lt
              have hp' := hp.below hbr hbl
              have hd1' := hdd.below hbr hgl
              obtain ⟨p, hpk⟩ : ∃ p, p = ps[k] := ⟨_, rfl⟩
              rw [← hpk] at hp' hd1'
              have HP := hide hpk
              clear hpk hp hdd
              have kI : (k : Int) < (ps.length : Int) := by omega
              have kK : (k : Int) < (ps.length : Int) + 1 := by omega
              have kL : (k : Int) + 1 < (ps.length : Int) + 1 := by omega
              have kJ : (0 : Int) ≤ (k : Int) := by omega
              have HC : DpAt wr.drew g1 (k * 13) p ∧ PartAt wr.drew b (off + k * 7) p := ⟨hd1', hp'⟩
              have hs11 : w11.heap.size ≤ wr.heap.size := hbr.size
              have hg1r : g1 < wr.drew.heap.size := Nat.lt_of_lt_of_le hgl hs11
              have hbrr : b < wr.drew.heap.size := Nat.lt_of_lt_of_le hbl hs11
              clear hd1' hp'
              go_wp2_with fail
              go_region_held3 (fun w' => w'.cell? ⟨g1, k * 13, none⟩ = some (.int .i32 0) ∧ w'.cell? ⟨g1, k * 13 + 1, none⟩ = some (.bool false) ∧ w'.cell? ⟨g1, k * 13 + 2, none⟩ = some (.string p.id) ∧ w'.cell? ⟨g1, k * 13 + 3, none⟩ = some (.string p.acc) ∧ w'.cell? ⟨g1, k * 13 + 4, none⟩ = some (.string p.cls) ∧ w'.cell? ⟨g1, k * 13 + 5, none⟩ = some (.string p.outl) ∧ w'.cell? ⟨g1, k * 13 + 6, none⟩ = some (.string redeem) ∧ w'.cell? ⟨g1, k * 13 + 7, none⟩ = some (.string ⟨#[]⟩) ∧ w'.cell? ⟨g1, k * 13 + 8, none⟩ = some (.string ⟨#[]⟩) ∧ w'.cell? ⟨g1, k * 13 + 9, none⟩ = some (.int .i32 p.due) ∧ w'.cell? ⟨g1, k * 13 + 10, none⟩ = some (.int .i32 p.traded) ∧ w'.cell? ⟨g1, k * 13 + 11, none⟩ = some (.int .i64 p.shares) ∧ w'.cell? ⟨g1, k * 13 + 12, none⟩ = some (.int .i64 2) ∧ w'.cell? ⟨b, off + k * 7, none⟩ = some (.string p.id) ∧ w'.cell? ⟨b, off + k * 7 + 1, none⟩ = some (.string p.acc) ∧ w'.cell? ⟨b, off + k * 7 + 2, none⟩ = some (.string p.cls) ∧ w'.cell? ⟨b, off + k * 7 + 3, none⟩ = some (.string p.outl) ∧ w'.cell? ⟨b, off + k * 7 + 4, none⟩ = some (.int .i32 p.due) ∧ w'.cell? ⟨b, off + k * 7 + 5, none⟩ = some (.int .i32 p.traded) ∧ w'.cell? ⟨b, off + k * 7 + 6, none⟩ = some (.int .i64 p.shares)) (first | exact flat20 HC.1 HC.2 | exact flat20 (HC.1.below hb12 hg1r) (HC.2.below hb12 hbrr))
                (first
                  | (go_at_call 9; refine (sameView_any p _).mono ?_; rintro e w12 ⟨rfl, hb12⟩))
              have hb13 : Below w11.heap.size w11 w12 := hbr.drew.trans (hb12.mono hs11)
              have q39 := eq39lit p
              have g39 : Try.prog.eqGuardType Try.prog.depth 39 = false := by kernel_rfl
              by_cases hkc : k < c
              · have kc : (k : Int) < (c : Int) := by omega
                obtain ⟨g2', hg2', dd2⟩ := (unhide HD2) k (by rw [unhide HL1]; omega)
                obtain rfl : g2 = g2' := by simpa using hg2'
                rw [ins_lt ps x c k hlt hkc] at dd2
                clear hg2'
                have hd2' : DpAt w12 g2 (k * 13) p := by
                  rw [unhide HP]
                  exact (dd2.below hbr.drew dd2.lt).below hb12 (Nat.lt_of_lt_of_le dd2.lt hs11)
                obtain ⟨d0, d1, d2, d3, d4, d5, d6, d7, d8, d9, d10, d11, d12⟩ := hd2'
                clear dd2 HD2 HC hb12 hd1 hP6 hv1
                go_wp2_with fail
                go_quiet (fail)
                go_wp2
                go_roundw
                case rel => exact ⟨k + 1, hlt, by go_num, below_drewN hb13 _⟩
                case measure => simp [intOf]; omega
              · have kc : (c : Int) ≤ (k : Int) := by omega
                obtain ⟨g2', hg2', dd2⟩ := (unhide HD2) (k + 1) (by rw [unhide HL1]; omega)
                obtain rfl : g2 = g2' := by simpa using hg2'
                rw [ins_gt ps x c k hlt (by omega)] at dd2
                clear hg2'
                have hd2' : DpAt w12 g2 ((k + 1) * 13) p := by
                  rw [unhide HP]
                  exact (dd2.below hbr.drew dd2.lt).below hb12 (Nat.lt_of_lt_of_le dd2.lt hs11)
                obtain ⟨d0, d1, d2, d3, d4, d5, d6, d7, d8, d9, d10, d11, d12⟩ := hd2'
                clear dd2 HD2 HC hb12 hd1 hP6 hv1
                go_wp2_with fail
                go_quiet (fail)
                go_wp2
                go_roundw
                case rel => exact ⟨k + 1, hlt, by go_num, below_drewN hb13 _⟩
                case measure => simp [intOf]; omega
            · go_wp2_with fail
              have hW := WOk.start (own_below hv1 hbr)
              have hR := hR8.trans (hbr.mono hR8.size)
              clear hv1 hd1 hP6 hR8 HD2 hlt
              go_loopw [16] (fun i wx => ∃ k : Nat, k ≤ ps.length ∧ i = .int .i64 k ∧ WOk wx w7.heap.size a1 ps k ∧ Below w7.heap.size w7 wx) (fun i _ => ps.length - (intOf i).toNat)
              case atStart => exact ⟨0, Nat.zero_le _, rfl, hW, hR⟩
              case round =>
                clear hW hR
                obtain ⟨k3, hk3, rfl, hW, hR⟩ := hrel
                by_cases hlt : k3 < ps.length
                · obtain ⟨g1, rfl, hBg, q1, q2, q3⟩ := hW.at hlt
                  have hid := (unhide HSM).le k3 hlt
                  have HW := hide hW
                  clear hW
                  go_wp2
                  go_roundw
                  case rel => exact ⟨k3 + 1, hlt, by go_num, (unhide HW).step _ _, (hR.setCell hBg _).setCell hBg _⟩
                  case measure => simp [intOf]; omega
                · go_wp2_with fail
                  refine (deferred_dps R1 ps _ (hR1.below hR) (by omega)).mono ?_
                  rintro e w14 ⟨a3, c3, rfl, hd3, hb14⟩
                  have hB14 : Below w7.heap.size w7 w14 := hR.trans (hb14.mono hR.size)
                  have hP14 := (unhide HP7).below hB14
                  have hfin := (unhide HB7).trans (hB14.mono (unhide HB7).size)
                  have HFIN := hide hfin
                  clear hb14 hR hW hlt hk3 hR1 HP7 HB7 hB14 hfin
                  have e1 : ((ps.length : Int) != (ps.length : Int)) = false := by simp
                  go_wp2_with fail
                  clear e1
                  go_loopw [18] (fun i wr => ∃ k : Nat, k ≤ ps.length ∧ i = .int .i64 k ∧ Below w14.heap.size w14 wr) (fun i _ => ps.length - (intOf i).toNat)
                  case atStart => exact ⟨0, Nat.zero_le _, rfl, Below.refl _ _⟩
                  case round =>
                    obtain ⟨k, hk, rfl, hbr⟩ := hrel
                    by_cases hlt : k < ps.length
                    · obtain ⟨b, off, rfl, hp⟩ := hP14 k hlt
                      obtain ⟨g3, rfl, hdd⟩ := hd3 k hlt
                      have hbl := World.block_lt_of_cell? w14 _ hp.1
                      have hgl := hdd.lt
                      have hp' := hp.below hbr hbl
                      have hd3' := hdd.below hbr hgl
                      obtain ⟨p, hpk⟩ : ∃ p, p = ps[k] := ⟨_, rfl⟩
                      rw [← hpk] at hp' hd3'
                      have kI : (k : Int) < (ps.length : Int) := by omega
                      have kJ : (0 : Int) ≤ (k : Int) := by omega
                      have HC : DpAt wr.drew g3 (k * 13) p ∧ PartAt wr.drew b (off + k * 7) p := ⟨hd3', hp'⟩
                      have hs14 : w14.heap.size ≤ wr.heap.size := hbr.size
                      have hg3r : g3 < wr.drew.heap.size := Nat.lt_of_lt_of_le hgl hs14
                      have hbrr : b < wr.drew.heap.size := Nat.lt_of_lt_of_le hbl hs14
                      clear hd3' hp' hpk hp hdd hP14 hd3
                      go_wp2_with fail
                      go_region_held3 (fun w' => w'.cell? ⟨g3, k * 13, none⟩ = some (.int .i32 0) ∧ w'.cell? ⟨g3, k * 13 + 1, none⟩ = some (.bool false) ∧ w'.cell? ⟨g3, k * 13 + 2, none⟩ = some (.string p.id) ∧ w'.cell? ⟨g3, k * 13 + 3, none⟩ = some (.string p.acc) ∧ w'.cell? ⟨g3, k * 13 + 4, none⟩ = some (.string p.cls) ∧ w'.cell? ⟨g3, k * 13 + 5, none⟩ = some (.string p.outl) ∧ w'.cell? ⟨g3, k * 13 + 6, none⟩ = some (.string redeem) ∧ w'.cell? ⟨g3, k * 13 + 7, none⟩ = some (.string ⟨#[]⟩) ∧ w'.cell? ⟨g3, k * 13 + 8, none⟩ = some (.string ⟨#[]⟩) ∧ w'.cell? ⟨g3, k * 13 + 9, none⟩ = some (.int .i32 p.due) ∧ w'.cell? ⟨g3, k * 13 + 10, none⟩ = some (.int .i32 p.traded) ∧ w'.cell? ⟨g3, k * 13 + 11, none⟩ = some (.int .i64 p.shares) ∧ w'.cell? ⟨g3, k * 13 + 12, none⟩ = some (.int .i64 2) ∧ w'.cell? ⟨b, off + k * 7, none⟩ = some (.string p.id) ∧ w'.cell? ⟨b, off + k * 7 + 1, none⟩ = some (.string p.acc) ∧ w'.cell? ⟨b, off + k * 7 + 2, none⟩ = some (.string p.cls) ∧ w'.cell? ⟨b, off + k * 7 + 3, none⟩ = some (.string p.outl) ∧ w'.cell? ⟨b, off + k * 7 + 4, none⟩ = some (.int .i32 p.due) ∧ w'.cell? ⟨b, off + k * 7 + 5, none⟩ = some (.int .i32 p.traded) ∧ w'.cell? ⟨b, off + k * 7 + 6, none⟩ = some (.int .i64 p.shares)) (first | exact flat20 HC.1 HC.2 | exact flat20 (HC.1.below hb15 hg3r) (HC.2.below hb15 hbrr))
                        (first
                          | (go_at_call 9; refine (sameView_any p _).mono ?_; rintro e w15 ⟨rfl, hb15⟩))
                      go_wp2
                      go_roundw
                      case rel => exact ⟨k + 1, hlt, by go_num, hbr.drew.trans (hb15.mono hs14)⟩
                      case measure => simp [intOf]; omega
                    · go_wp2
                      go_ret
                      have hB := (unhide HFIN).trans (hbr.mono (unhide HFIN).size)
                      exact ⟨rfl, (unhide HB0).trans (hB.mono (unhide HB0).size)⟩
end Go.Proofs.Qxb6614794a
