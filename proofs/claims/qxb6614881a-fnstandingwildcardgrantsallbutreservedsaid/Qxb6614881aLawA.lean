import Derived.Test.Qxb6614881aBytesA
import Derived.OwnWalk
import Derived.Laws.CopyOwn
import Derived.Deep.CutBlock
import Derived.Deep.DeepCutAuto
namespace Go.Proofs.Qxb6614881a
open Go.RowKit

theorem Try.info9 : (Try.prog.info? 9).map (fun i => (i.zero, i.size, i.bytes)) = some (some (.string ⟨#[]⟩), 1, 16) := by kernel_rfl
theorem Try.info4 : (Try.prog.info? 4).map (fun i => (i.zero, i.size, i.bytes)) = some (some (.bool false), 1, 1) := by kernel_rfl
theorem Try.one9 : (Try.prog.info? 9).map (·.size) = some 1 := by kernel_rfl
theorem Try.one4 : (Try.prog.info? 4).map (·.size) = some 1 := by kernel_rfl

/-- The strings of a block that is known whole. -/
theorem strsAt_of_block {w : World} {g : Nat} {l : List ByteArray} {rest : List Value} {t : TypeId} (h : w.heap[g]? = some (.cells (l.map Value.string ++ rest).toArray t (0, 0))) : StrsAt w (some ⟨g, 0, none⟩) l := by
  intro k hk
  refine ⟨g, 0, rfl, ?_⟩
  rw [cell_of_row _ g _ _ t (0, 0) h]
  simp [List.getElem?_append_left, hk]
theorem boolsAt_of_block {w : World} {g : Nat} {l : List Bool} {rest : List Value} {t : TypeId} (h : w.heap[g]? = some (.cells (l.map Value.bool ++ rest).toArray t (0, 0))) : BoolsAt w (some ⟨g, 0, none⟩) l := by
  intro k hk
  refine ⟨g, 0, rfl, ?_⟩
  rw [cell_of_row _ g _ _ t (0, 0) h]
  simp [List.getElem?_append_left, hk]
theorem StrsAt.src {w : World} {ad : Addr} {l : List ByteArray} (h : StrsAt w (some ad) l) : ∀ j v, (l.map Value.string)[j]? = some v → w.cell? (ad.add j) = some v := by
  intro j v hv
  have hj : j < l.length := by simpa using (List.getElem?_eq_some_iff.1 hv).1
  obtain ⟨b, off, h1, h2⟩ := h j hj
  obtain rfl := Option.some.inj h1
  rw [Addr.add_lit, h2]
  simpa [hj] using hv
theorem BoolsAt.src {w : World} {ad : Addr} {l : List Bool} (h : BoolsAt w (some ad) l) : ∀ j v, (l.map Value.bool)[j]? = some v → w.cell? (ad.add j) = some v := by
  intro j v hv
  have hj : j < l.length := by simpa using (List.getElem?_eq_some_iff.1 hv).1
  obtain ⟨b, off, h1, h2⟩ := h j hj
  obtain rfl := Option.some.inj h1
  rw [Addr.add_lit, h2]
  simpa [hj] using hv
theorem strs_one (l : List ByteArray) : ∀ u ∈ l.map Value.string, u.oneCell' = true := by
  intro u hu
  obtain ⟨s, _, rfl⟩ := List.mem_map.1 hu
  rfl
theorem bools_one (l : List Bool) : ∀ u ∈ l.map Value.bool, u.oneCell' = true := by
  intro u hu
  obtain ⟨s, _, rfl⟩ := List.mem_map.1 hu
  rfl

theorem own_block {w : World} {B e n : Nat} {g c : Nat} {xs : List Value} (h : w.ownsRow B e 1 (.slice (some ⟨g, 0, none⟩) n c) n xs) : ∃ cur : List Value, w.heap[g]? = some (.cells cur.toArray e (0, 0)) ∧ cur.length = c ∧ B ≤ g := by
  rcases h.2 with ⟨h1, _⟩ | ⟨g', cap, cur, h1, hb, hg, _, _, hs, _⟩
  · cases h1
  · obtain ⟨hga, _, rfl⟩ := Value.slice.inj h1
    simp at hga
    subst hga
    exact ⟨cur.toList, by simpa using hg, by simpa using hs, hb⟩

/-- The strings of ps, backwards, as far as they have been laid into block g. -/
def RevOk (w : World) (g : Nat) (ps : List ByteArray) (k : Nat) : Prop :=
  ∃ cur : Array Value, w.heap[g]? = some (.cells cur 9 (0, 0)) ∧ cur.size = ps.length ∧ ∀ j (hj : j < ps.length), j < k → cur[j]? = some (.string ps[ps.length - 1 - j])
theorem RevOk.step {w : World} {g k : Nat} {ps : List ByteArray} (h : RevOk w g ps k) (hk : k < ps.length) : RevOk (w.setCell ⟨g, k, none⟩ (.string ps[ps.length - 1 - k])) g ps (k + 1) := by
  obtain ⟨cur, h1, h2, h3⟩ := h
  refine ⟨cur.setIfInBounds k (.string ps[ps.length - 1 - k]), by simp [World.setCell, Array.getElem?_modify, h1], by simpa using h2, fun j hj hjk => ?_⟩
  by_cases e : j = k
  · subst e
    rw [Array.getElem?_setIfInBounds_self_of_lt (by omega)]
  · rw [Array.getElem?_setIfInBounds_ne (by omega)]
    exact h3 j hj (by omega)
theorem RevOk.at {w : World} {g k : Nat} {ps : List ByteArray} (h : RevOk w g ps k) (hk : k < ps.length) : (∃ v, w.cell? ⟨g, k, none⟩ = some v) ∧ w.frozen? ⟨g, k, none⟩ = false := by
  obtain ⟨cur, h1, h2, _⟩ := h
  refine ⟨?_, by simp [World.frozen?, h1]⟩
  rw [cell_of_row _ g _ _ 9 (0, 0) h1]
  exact ⟨cur[k], by simp [h2, hk]⟩
theorem RevOk.done {w : World} {g : Nat} {ps : List ByteArray} (h : RevOk w g ps ps.length) : StrsAt w (some ⟨g, 0, none⟩) ps.reverse := by
  obtain ⟨cur, h1, h2, h3⟩ := h
  intro k hk
  have hk' : k < ps.length := by simpa using hk
  refine ⟨g, 0, rfl, ?_⟩
  rw [cell_of_row _ g _ _ 9 (0, 0) h1, Nat.zero_add, h3 k hk' hk']
  simp

/-! ### The plain law -/
theorem plain3 (ev mw : Bool) (ms : List ByteArray) (U : Option (Bool × List ByteArray)) (table : ByteArray) (ps : List ByteArray) (c : Nat) :
    (ev || mayB mw ms U table ps) = ((ev || mayB mw ms U table (ps.take c)) && (ev || mayB mw ms U table (ps.drop c))) ∧ (ev || mayB mw ms U table ps.reverse) = (ev || mayB mw ms U table ps) ∧ (ev || mayB mw ms U table []) = true ∧
      ((ev || mw || has ms table) = true → (ev || mayB mw ms U table ps) = true) := by
  have h : ps.all (cov U) = ((ps.take c).all (cov U) && (ps.drop c).all (cov U)) := by
    rw [← List.all_append, List.take_append_drop]
  refine ⟨?_, ?_, ?_, ?_⟩
  · unfold mayB; rw [h]
    cases ev <;> cases (mw || has ms table) <;> simp
  · unfold mayB; rw [List.all_reverse]
  · unfold mayB; simp
  · unfold mayB
    cases ev <;> cases mw <;> cases has ms table <;> simp

theorem newStanding_len (re ev aw mw : Bool) (aa ma ta wa la : Option Addr) (al ac ml mc tc wcc lc nw nl : Nat) (ts : List ByteArray) (ws : List Bool) (ls : List (List ByteArray)) (w : World) (hl : ts.length ≤ maxLen) (hw : ws.length = ts.length) (hls : ls.length = ts.length) (e1 : nw = ts.length) (e2 : nl = ts.length)
    (hT : StrsAt w ta ts) (hW : BoolsAt w wa ws) (hL : ListsAt w la ls) :
    Calls Try.prog 8 #[.bool re, .bool ev, .bool aw, .slice aa al ac, .slice ta ts.length tc, .slice wa nw wcc, .slice la nl lc, .bool mw, .slice ma ml mc] w fun e w' =>
      ∃ r, e = .returned (.agg #[.bool re, .bool ev, .bool aw, .slice aa al ac, .map (some r), .bool mw, .slice ma ml mc]) ∧ MapNames w' r (FTo ts ws ls ts.length) ∧ Below w.heap.size w w' := by
  subst e1 e2
  exact newStanding_any re ev aw mw aa ma ta wa la al ac ml mc tc wcc lc ts ws ls w hl hw hls hT hW hL

/-- A standing in memory, and all that it leads to. -/
def StandAt (w : World) (N : Nat) (re ev aw mw : Bool) (aa ma : Option Addr) (al ac ml mc r : Nat) : Prop :=
  w.cell? ⟨N, 0, none⟩ = some (.bool re) ∧ w.cell? ⟨N, 1, none⟩ = some (.bool ev) ∧ w.cell? ⟨N, 2, none⟩ = some (.bool aw) ∧ w.cell? ⟨N, 3, none⟩ = some (.slice aa al ac) ∧ w.cell? ⟨N, 4, none⟩ = some (.map (some r)) ∧ w.cell? ⟨N, 5, none⟩ = some (.bool mw) ∧ w.cell? ⟨N, 6, none⟩ = some (.slice ma ml mc)
theorem StandAt.below {w w' : World} {N : Nat} {re ev aw mw : Bool} {aa ma : Option Addr} {al ac ml mc r : Nat} (h : StandAt w N re ev aw mw aa ma al ac ml mc r) (hb : Below w.heap.size w w') : StandAt w' N re ev aw mw aa ma al ac ml mc r := by
  obtain ⟨h0, h1, h2, h3, h4, h5, h6⟩ := h
  have hN := World.block_lt_of_cell? w _ h0
  exact ⟨(hb.cell (p := ⟨N, 0, none⟩) hN).trans h0, (hb.cell (p := ⟨N, 1, none⟩) hN).trans h1, (hb.cell (p := ⟨N, 2, none⟩) hN).trans h2, (hb.cell (p := ⟨N, 3, none⟩) hN).trans h3, (hb.cell (p := ⟨N, 4, none⟩) hN).trans h4, (hb.cell (p := ⟨N, 5, none⟩) hN).trans h5, (hb.cell (p := ⟨N, 6, none⟩) hN).trans h6⟩
theorem standAt_new (w : World) (re ev aw mw : Bool) (aa ma : Option Addr) (al ac ml mc r : Nat) : StandAt (w.alloc (.cells #[.bool re, .bool ev, .bool aw, .slice aa al ac, .map (some r), .bool mw, .slice ma ml mc] 34)) w.heap.size re ev aw mw aa ma al ac ml mc r := by
  have k : ∀ j u, (#[.bool re, .bool ev, .bool aw, .slice aa al ac, .map (some r), .bool mw, .slice ma ml mc] : Array Value)[j]? = some u → (w.alloc (.cells #[.bool re, .bool ev, .bool aw, .slice aa al ac, .map (some r), .bool mw, .slice ma ml mc] 34)).cell? ⟨w.heap.size, j, none⟩ = some u := fun j u hu => by
    rw [cell_of_row _ _ j _ 34 (0, 0) (heap_alloc_new w _)]; exact hu
  exact ⟨k 0 _ rfl, k 1 _ rfl, k 2 _ rfl, k 3 _ rfl, k 4 _ rfl, k 5 _ rfl, k 6 _ rfl⟩

theorem StrsAt.take {w : World} {ao : Option Addr} {ss : List ByteArray} (h : StrsAt w ao ss) (n : Nat) : StrsAt w ao (ss.take n) := by
  intro k hk
  have hk' : k < ss.length := by simp at hk; omega
  obtain ⟨b, off, h1, h2⟩ := h k hk'
  exact ⟨b, off, h1, by rw [List.getElem_take]; exact h2⟩
theorem StrsAt.drop {w : World} {ao : Option Addr} {ss : List ByteArray} (h : StrsAt w ao ss) (c cap : Nat) (hcap : ss.length ≤ cap) : StrsAt w (if cap = c then ao else ao.map (fun x => x.add c)) (ss.drop c) := by
  intro k hk
  have hk' : c + k < ss.length := by simp at hk; omega
  obtain ⟨b, off, h1, h2⟩ := h (c + k) hk'
  subst h1
  refine ⟨b, off + c, ?_, ?_⟩
  · rw [if_neg (by omega)]; simp [Addr.add_lit]
  · rw [List.getElem_drop, Nat.add_assoc]
    exact h2
theorem callMay_len (re ev aw mw : Bool) (aa ma ao : Option Addr) (al ac mc cap r n : Nat) (ml ps : List ByteArray) (table : ByteArray) (F : ByteArray → Option (Bool × List ByteArray)) (w : World) (hl : ml.length ≤ maxLen) (h : StrsAt w ma ml)
    (hn : ps.length = n) (hl2 : n ≤ maxLen) (h2 : StrsAt w ao ps) (hM : MapNames w r F) :
    Calls Try.prog 9 #[.agg #[.bool re, .bool ev, .bool aw, .slice aa al ac, .map (some r), .bool mw, .slice ma ml.length mc], .string table, .slice ao n cap] w fun e w' => e = .returned (.bool (ev || mayB mw ml (F table) table ps)) ∧ Below w.heap.size w w' := by
  subst hn
  exact callMay_any re ev aw mw aa ma ao al ac mc cap r ml ps table F w hl h hl2 h2 hM

theorem neq_nil (t : TypeId) (e : TypeId) (ht : Try.prog.underlying t = some (.slice e)) (a : Option Addr) (n c : Nat) (w : World) : (binOp .neq t (.slice a n c) (.slice none 0 0)).run Try.prog w = .ok (.bool a.isSome) w := by
  have key : ∀ d, (Op.equalIn (d + 1) t (.slice a n c) (.slice none 0 0)).run Try.prog w = .ok a.isNone w := fun d => by
    cases a <;> simp [Op.equalIn, run_underlying ht]
  have := key 9999
  simp only [binOp, Op.equal, Op.maxDepth, Sem.run_bind, this, Result.andThen_ok, Sem.run_pure]
  cases a <;> rfl

set_option maxRecDepth 100000 in
set_option maxHeartbeats 4000000 in
theorem law3 (re ev aw mw : Bool) (aa ta wa la ma pa : Option Addr) (ac tc wcc lc mc pc : Nat) (adl ts ms ps : List ByteArray) (ws : List Bool) (ls : List (List ByteArray)) (table : ByteArray) (kk : Int) (w : World)
    (h1 : adl.length ≤ maxLen) (hA : StrsAt w aa adl) (h2 : ts.length ≤ maxLen) (hT : StrsAt w ta ts) (hW : BoolsAt w wa ws) (h3 : ls.length ≤ maxLen) (hL : ListsAt w la ls) (h4 : ms.length ≤ maxLen) (hM : StrsAt w ma ms) (h5 : ps.length ≤ maxLen) (hP : StrsAt w pa ps) (hpc : ps.length ≤ pc) :
    Calls Try.prog 3 #[.bool re, .bool ev, .bool aw, .slice aa adl.length ac, .slice ta ts.length tc, .slice wa ws.length wcc, .slice la ls.length lc, .bool mw, .slice ma ms.length mc, .string table, .slice pa ps.length pc, .int .i64 kk] w
      fun e w' => e = .returned (.bool true) ∧ Below w.heap.size w w' := by
  go_enter Try.func3, Try.ntmps3
  go_wp2_with fail
  refine (bytes5_any re ev aw mw aa ta wa la ma pa ac tc wcc lc mc pc adl ts ms ps ws ls table kk w h1 hA h2 hT h3 hL h4 hM h5 hP).mono ?_
  rintro e w' ⟨⟨r, rfl, hlens⟩, rfl⟩
  rename World => w
  cases r with
  | false =>
    go_wp2
    go_ret
    exact ⟨rfl, Below.refl _ _⟩
  | true =>
  obtain ⟨l1, l2, l3, l4, l5, l6⟩ := hlens rfl
  clear hlens
  go_wp2_with fail
  refine (standingBytes_any aa ta wa la ma pa ac tc wcc lc mc pc adl ts ms ps ws ls table w h1 hA h2 hT h3 hL h4 hM h5 hP).mono ?_
  rintro e w' ⟨⟨n, rfl⟩, rfl⟩
  rename World => w
  by_cases hn : (1048576 : Int) < n
  · go_wp2
    go_ret
    exact ⟨rfl, Below.refl _ _⟩
  by_cases hc0 : kk < 0
  · go_wp2
    go_ret
    exact ⟨rfl, Below.refl _ _⟩
  by_cases hc1 : (ps.length : Int) < kk
  · go_wp2
    go_ret
    exact ⟨rfl, Below.refl _ _⟩
  obtain ⟨c, rfl⟩ := Int.eq_ofNat_of_zero_le (by omega : 0 ≤ kk)
  have hcn : c ≤ ps.length := by omega
  go_wp2_with fail
  refine (wellFormed_any aa ta wa la ma ac tc wcc lc mc adl ts ms ws ls w h1 hA h2 hT h3 hL h4 hM).mono ?_
  rintro e w0 ⟨⟨r, rfl, hr⟩, hb0⟩
  cases r with
  | false =>
    go_wp2
    go_ret
    exact ⟨rfl, hb0⟩
  | true =>
  obtain ⟨hws, hls, -⟩ := hr rfl
  have HWS := hide hws
  have HLS := hide hls
  replace hA := hA.below hb0
  replace hT := hT.below hb0
  replace hW := hW.below hb0
  replace hL := hL.below hb0
  replace hM := hM.below hb0
  replace hP := hP.below hb0
  have HB0 := hide hb0
  clear hr hws hls hc0 hc1 hn hb0
  have q22 := neq_nil 22 9 Try.underlying22
  have q23 := neq_nil 23 4 Try.underlying23
  obtain ⟨i9, hi9, y0, y1, y2⟩ := info_parts Try.info9
  obtain ⟨i4, hi4, x0, x1, x2⟩ := info_parts Try.info4
  have hby0 : i9.bytes * adl.length ≤ 281474976710656 := by rw [y2]; omega
  go_upto_if 78 with fail
  go_cut [3] (fun v wr => ∃ a c, v = .slice a adl.length c ∧ StrsAt wr a adl ∧ Below w0.heap.size w0 wr)
  case first =>
   as_aux_lemma =>
    cases aa with
    | none =>
      go_wp2
      go_meet
      case rel => exact ⟨none, ac, rfl, hA, Below.refl _ _⟩
    | some a =>
      go_wp2_with (first
        | (at_make; refine wpList_make_full _ rfl _ _ 22 rfl w0.heap.size 9 i9 _ 1 Try.underlying22 hi9 y0 y1 .i64 .i64 _ _ adl.length rfl rfl rfl rfl hby0 (by unfold maxLen; omega) (Nat.le_refl _) ?_; intro v1 hown1 hgr1; obtain ⟨cur, hcur, hcl, hBg⟩ := own_block hown1; have bl1 : Below w0.heap.size w0 v1 := (Below.refl _ _).grown hgr1 (Nat.le_refl _) (by simp); have hsrc := (hA.below bl1).src)
        | (refine wpList_copy_splice rfl (.tmp 82) (.tmp 83) 22 22 rfl 9 Try.underlying22 Try.one9 _ _ _ _ _ _ rfl rfl w0.heap.size 0 cur 9 hcur (adl.map Value.string) (by simp) (fun _ => ⟨rfl, a, rfl, hsrc⟩) (by simp; omega) (strs_one _) w0.heap.size w0 bl1 (Nat.le_refl _) ?_; intro v2 hg2 hb2))
      go_meet
      case rel => exact ⟨some ⟨w0.heap.size, 0, none⟩, _, rfl, strsAt_of_block (rest := cur.drop adl.length) (by simpa [splice] using Hid.out hg2), hb2⟩
  rename World => w1
  obtain ⟨aa', ac', rfl, hA', hb⟩ := hcut
  replace hT := hT.below hb
  replace hW := hW.below hb
  replace hL := hL.below hb
  replace hM := hM.below hb
  replace hP := hP.below hb
  replace hA := hA'
  have hB := hb
  clear hb hby0 hA'
  have hby1 : i9.bytes * ts.length ≤ 281474976710656 := by rw [y2]; omega
  go_upto_if 87 with fail
  go_cut [4] (fun v wr => ∃ a c, v = .slice a ts.length c ∧ StrsAt wr a ts ∧ Below w1.heap.size w1 wr)
  case first =>
   as_aux_lemma =>
    cases ta with
    | none =>
      go_wp2
      go_meet
      case rel => exact ⟨none, tc, rfl, hT, Below.refl _ _⟩
    | some a =>
      go_wp2_with (first
        | (at_make; refine wpList_make_full _ rfl _ _ 22 rfl w1.heap.size 9 i9 _ 1 Try.underlying22 hi9 y0 y1 .i64 .i64 _ _ ts.length rfl rfl rfl rfl hby1 (by unfold maxLen; omega) (Nat.le_refl _) ?_; intro v1 hown1 hgr1; obtain ⟨cur, hcur, hcl, hBg⟩ := own_block hown1; have bl1 : Below w1.heap.size w1 v1 := (Below.refl _ _).grown hgr1 (Nat.le_refl _) (by simp); have hsrc := (hT.below bl1).src)
        | (refine wpList_copy_splice rfl (.tmp 91) (.tmp 92) 22 22 rfl 9 Try.underlying22 Try.one9 _ _ _ _ _ _ rfl rfl w1.heap.size 0 cur 9 hcur (ts.map Value.string) (by simp) (fun _ => ⟨rfl, a, rfl, hsrc⟩) (by simp; omega) (strs_one _) w1.heap.size w1 bl1 (Nat.le_refl _) ?_; intro v2 hg2 hb2))
      go_meet
      case rel => exact ⟨some ⟨w1.heap.size, 0, none⟩, _, rfl, strsAt_of_block (rest := cur.drop ts.length) (by simpa [splice] using Hid.out hg2), hb2⟩
  rename World => w2
  obtain ⟨ta', tc', rfl, hT', hb⟩ := hcut
  replace hA := hA.below hb
  replace hW := hW.below hb
  replace hL := hL.below hb
  replace hM := hM.below hb
  replace hP := hP.below hb
  replace hT := hT'
  replace hB := hB.trans (hb.mono hB.size)
  clear hb hby1 hT'
  have hby2 : i4.bytes * ws.length ≤ 281474976710656 := by rw [x2]; omega
  go_upto_if 96 with fail
  go_cut [5] (fun v wr => ∃ a c, v = .slice a ws.length c ∧ BoolsAt wr a ws ∧ Below w2.heap.size w2 wr)
  case first =>
   as_aux_lemma =>
    cases wa with
    | none =>
      go_wp2
      go_meet
      case rel => exact ⟨none, wcc, rfl, hW, Below.refl _ _⟩
    | some a =>
      go_wp2_with (first
        | (at_make; refine wpList_make_full _ rfl _ _ 23 rfl w2.heap.size 4 i4 _ 1 Try.underlying23 hi4 x0 x1 .i64 .i64 _ _ ws.length rfl rfl rfl rfl hby2 (by unfold maxLen; omega) (Nat.le_refl _) ?_; intro v1 hown1 hgr1; obtain ⟨cur, hcur, hcl, hBg⟩ := own_block hown1; have bl1 : Below w2.heap.size w2 v1 := (Below.refl _ _).grown hgr1 (Nat.le_refl _) (by simp); have hsrc := (hW.below bl1).src)
        | (refine wpList_copy_splice rfl (.tmp 100) (.tmp 101) 23 23 rfl 4 Try.underlying23 Try.one4 _ _ _ _ _ _ rfl rfl w2.heap.size 0 cur 4 hcur (ws.map Value.bool) (by simp) (fun _ => ⟨rfl, a, rfl, hsrc⟩) (by simp; omega) (bools_one _) w2.heap.size w2 bl1 (Nat.le_refl _) ?_; intro v2 hg2 hb2))
      go_meet
      case rel => exact ⟨some ⟨w2.heap.size, 0, none⟩, _, rfl, boolsAt_of_block (rest := cur.drop ws.length) (by simpa [splice] using Hid.out hg2), hb2⟩
  rename World => w3
  obtain ⟨wa', wcc', rfl, hW', hb⟩ := hcut
  replace hA := hA.below hb
  replace hT := hT.below hb
  replace hL := hL.below hb
  replace hM := hM.below hb
  replace hP := hP.below hb
  replace hW := hW'
  replace hB := hB.trans (hb.mono hB.size)
  clear hb hby2 hW'
  have hby3 : i9.bytes * ms.length ≤ 281474976710656 := by rw [y2]; omega
  go_upto_if 105 with fail
  go_cut [8] (fun v wr => ∃ a c, v = .slice a ms.length c ∧ StrsAt wr a ms ∧ Below w3.heap.size w3 wr)
  case first =>
   as_aux_lemma =>
    cases ma with
    | none =>
      go_wp2
      go_meet
      case rel => exact ⟨none, mc, rfl, hM, Below.refl _ _⟩
    | some a =>
      go_wp2_with (first
        | (at_make; refine wpList_make_full _ rfl _ _ 22 rfl w3.heap.size 9 i9 _ 1 Try.underlying22 hi9 y0 y1 .i64 .i64 _ _ ms.length rfl rfl rfl rfl hby3 (by unfold maxLen; omega) (Nat.le_refl _) ?_; intro v1 hown1 hgr1; obtain ⟨cur, hcur, hcl, hBg⟩ := own_block hown1; have bl1 : Below w3.heap.size w3 v1 := (Below.refl _ _).grown hgr1 (Nat.le_refl _) (by simp); have hsrc := (hM.below bl1).src)
        | (refine wpList_copy_splice rfl (.tmp 109) (.tmp 110) 22 22 rfl 9 Try.underlying22 Try.one9 _ _ _ _ _ _ rfl rfl w3.heap.size 0 cur 9 hcur (ms.map Value.string) (by simp) (fun _ => ⟨rfl, a, rfl, hsrc⟩) (by simp; omega) (strs_one _) w3.heap.size w3 bl1 (Nat.le_refl _) ?_; intro v2 hg2 hb2))
      go_meet
      case rel => exact ⟨some ⟨w3.heap.size, 0, none⟩, _, rfl, strsAt_of_block (rest := cur.drop ms.length) (by simpa [splice] using Hid.out hg2), hb2⟩
  rename World => w4
  obtain ⟨ma', mc', rfl, hM', hb⟩ := hcut
  replace hA := hA.below hb
  replace hT := hT.below hb
  replace hW := hW.below hb
  replace hL := hL.below hb
  replace hP := hP.below hb
  replace hM := hM'
  replace hB := hB.trans (hb.mono hB.size)
  clear hb hby3 hM'
  have hby4 : i9.bytes * ps.length ≤ 281474976710656 := by rw [y2]; omega
  go_upto_if 114 with fail
  go_cut [10] (fun v wr => ∃ a c, v = .slice a ps.length c ∧ StrsAt wr a ps ∧ Below w4.heap.size w4 wr ∧ ps.length ≤ c)
  case first =>
   as_aux_lemma =>
    cases pa with
    | none =>
      go_wp2
      go_meet
      case rel => exact ⟨none, pc, rfl, hP, Below.refl _ _, hpc⟩
    | some a =>
      go_wp2_with (first
        | (at_make; refine wpList_make_full _ rfl _ _ 22 rfl w4.heap.size 9 i9 _ 1 Try.underlying22 hi9 y0 y1 .i64 .i64 _ _ ps.length rfl rfl rfl rfl hby4 (by unfold maxLen; omega) (Nat.le_refl _) ?_; intro v1 hown1 hgr1; obtain ⟨cur, hcur, hcl, hBg⟩ := own_block hown1; have bl1 : Below w4.heap.size w4 v1 := (Below.refl _ _).grown hgr1 (Nat.le_refl _) (by simp); have hsrc := (hP.below bl1).src)
        | (refine wpList_copy_splice rfl (.tmp 118) (.tmp 119) 22 22 rfl 9 Try.underlying22 Try.one9 _ _ _ _ _ _ rfl rfl w4.heap.size 0 cur 9 hcur (ps.map Value.string) (by simp) (fun _ => ⟨rfl, a, rfl, hsrc⟩) (by simp; omega) (strs_one _) w4.heap.size w4 bl1 (Nat.le_refl _) ?_; intro v2 hg2 hb2))
      go_meet
      case rel => exact ⟨some ⟨w4.heap.size, 0, none⟩, _, rfl, strsAt_of_block (rest := cur.drop ps.length) (by simpa [splice] using Hid.out hg2), hb2, Nat.le_refl _⟩
  rename World => w5
  obtain ⟨pa', pc', rfl, hP', hb, hpc'⟩ := hcut
  replace hA := hA.below hb
  replace hT := hT.below hb
  replace hW := hW.below hb
  replace hL := hL.below hb
  replace hM := hM.below hb
  replace hP := hP'
  replace hB := hB.trans (hb.mono hB.size)
  clear hb hby4 hP'
  as_aux_lemma =>
    have hby5 : i9.bytes * ps.length ≤ 281474976710656 := by rw [y2]; omega
    go_wp2_with (at_make; refine wpList_make_full _ rfl _ _ 22 rfl w5.heap.size 9 i9 _ 1 Try.underlying22 hi9 y0 y1 .i64 .i64 _ _ ps.length rfl rfl rfl rfl hby5 (by unfold maxLen; omega) (Nat.le_refl _) ?_; intro w6 hown6 hgr6)
    obtain ⟨cur, hcur, hcl, -⟩ := own_block hown6
    have bl6 : Below w5.heap.size w5 w6 := (Below.refl _ _).grown hgr6 (Nat.le_refl _) (by simp)
    have hrev : RevOk w6 w5.heap.size ps 0 := ⟨cur.toArray, hcur, by simpa using hcl, fun j _ h => by omega⟩
    clear hown6 hgr6 hcur hcl hby5 hi9 y0 y1 y2 hi4 x0 x1 x2 q22 q23
    go_loopw [31] (fun i wr => ∃ k : Nat, k ≤ ps.length ∧ i = .int .i64 k ∧ RevOk wr w5.heap.size ps k ∧ Below w5.heap.size w5 wr) (fun i _ => ps.length - (intOf i).toNat)
    case atStart => exact ⟨0, Nat.zero_le _, rfl, hrev, bl6⟩
    case round =>
      clear hrev bl6
      obtain ⟨k, hk, rfl, hrev, hb⟩ := hrel
      by_cases hlt : k < ps.length
      · obtain ⟨b, off, rfl, d1⟩ := hP.below hb (ps.length - 1 - k) (by omega)
        obtain ⟨⟨v, d2⟩, d3⟩ := hrev.at hlt
        have HR := hide hrev
        clear hrev hA hT hW hL hM hP
        go_wp2
        go_roundw
        case rel => exact ⟨k + 1, hlt, by go_num, (unhide HR).step hlt, hb.setCell (by exact Nat.le_refl _) _⟩
        case measure => simp [intOf]; omega
      · have hkn : k = ps.length := by omega
        have hR : StrsAt wr (some ⟨w5.heap.size, 0, none⟩) ps.reverse := (hkn ▸ hrev : RevOk wr w5.heap.size ps ps.length).done
        replace hA := hA.below hb
        replace hT := hT.below hb
        replace hW := hW.below hb
        replace hL := hL.below hb
        replace hM := hM.below hb
        replace hP := hP.below hb
        replace hB := hB.trans (hb.mono hB.size)
        clear hrev hkn hb
        go_wp2_with fail
        refine (newStanding_len re ev aw mw aa' ma' ta' wa' la adl.length ac' ms.length mc' tc' wcc' lc ws.length ls.length ts ws ls wr h2 (unhide HWS) (unhide HLS) (unhide HWS) (unhide HLS) hT hW hL).mono ?_
        rintro e w7 ⟨r, rfl, hMN, hb7⟩
        replace hM := hM.below hb7
        replace hP := hP.below hb7
        replace hR := hR.below hb7
        replace hB := hB.trans (hb7.mono hB.size)
        clear hA hT hW hL hb7 hlt hk HWS HLS
        generalize FTo ts ws ls ts.length = F at hMN
        go_wp2_with fail
        obtain ⟨w8, hw8⟩ : ∃ w8, w8 = w7.alloc (.cells #[.bool re, .bool ev, .bool aw, .slice aa' adl.length ac', .map (some r), .bool mw, .slice ma' ms.length mc'] 34) := ⟨_, rfl⟩
        have hb8 : Below w7.heap.size w7 w8 := by subst hw8; exact (Below.refl _ _).alloc (Nat.le_refl _) _
        have hS : StandAt w8 w7.heap.size re ev aw mw aa' ma' adl.length ac' ms.length mc' r := by subst hw8; exact standAt_new _ _ _ _ _ _ _ _ _ _ _ _
        rw [← hw8]
        replace hM := hM.below hb8
        replace hP := hP.below hb8
        replace hR := hR.below hb8
        replace hMN := hMN.below hb8
        replace hB := hB.trans (hb8.mono hB.size)
        generalize hN : w7.heap.size = N at hS ⊢
        clear hw8 hb8 hN
        refine (callMay_any re ev aw mw aa' ma' pa' adl.length ac' mc' pc' r ms ps table F w8 h4 hM h5 hP hMN).mono ?_
        rintro e w9 ⟨rfl, hb9⟩
        replace hM := hM.below hb9
        replace hP := hP.below hb9
        replace hR := hR.below hb9
        replace hMN := hMN.below hb9
        replace hS := hS.below hb9
        replace hB := hB.trans (hb9.mono hB.size)
        obtain ⟨bw, hbw⟩ : ∃ b, b = (ev || mayB mw ms (F table) table ps) := ⟨_, rfl⟩
        rw [← hbw]
        have HBW := hide hbw
        clear hbw hb9
        have i1 : (0 : Int) ≤ (c : Int) := by omega
        have i2 : (c : Int) ≤ (ps.length : Int) := by omega
        have i3 : (c : Int) ≤ (pc' : Int) := by omega
        have hlt : (ps.take c).length = c := by simp; omega
        have hld : (ps.drop c).length = ps.length - c := by simp
        have HLT := hide hlt
        have HLD := hide hld
        clear hlt hld
        go_wp2_with fail
        have hS9 : StandAt w9.drew N re ev aw mw aa' ma' adl.length ac' ms.length mc' r := hS
        have hM9 : StrsAt w9.drew ma' ms := hM
        have hPT : StrsAt w9.drew pa' (ps.take c) := hP.take c
        have hMN9 : MapNames w9.drew r F := hMN
        go_region_held3 (fun w' => w'.cell? ⟨N, 0, none⟩ = some (.bool re) ∧ w'.cell? ⟨N, 1, none⟩ = some (.bool ev) ∧ w'.cell? ⟨N, 2, none⟩ = some (.bool aw) ∧ w'.cell? ⟨N, 3, none⟩ = some (.slice aa' adl.length ac') ∧ w'.cell? ⟨N, 4, none⟩ = some (.map (some r)) ∧ w'.cell? ⟨N, 5, none⟩ = some (.bool mw) ∧ w'.cell? ⟨N, 6, none⟩ = some (.slice ma' ms.length mc')) (first | exact hS9 | exact hS9.below hb10)
          (first
            | (go_at_call 9; refine (callMay_len re ev aw mw aa' ma' pa' adl.length ac' mc' _ r c ms (ps.take c) table F _ h4 hM9 (unhide HLT) (by unfold maxLen; omega) hPT hMN9).mono ?_; rintro e w10 ⟨rfl, hb10⟩))
        clear hS9 hM9 hPT hMN9
        have hb' : Below w9.heap.size w9 w10 := ((Below.refl _ _).drew).trans hb10
        replace hM := hM.below hb'
        replace hP := hP.below hb'
        replace hR := hR.below hb'
        replace hMN := hMN.below hb'
        replace hS := hS.below hb'
        replace hB := hB.trans (hb'.mono hB.size)
        obtain ⟨bl, hbl⟩ : ∃ b, b = (ev || mayB mw ms (F table) table (ps.take c)) := ⟨_, rfl⟩
        rw [← hbl]
        have HBL := hide hbl
        clear hbl hb10 hb'
        as_aux_lemma =>
          go_upto_region 37 with fail
          go_cut [35] (fun v wr => v = .bool (ev || mayB mw ms (F table) table (ps.drop c)) ∧ Below w10.heap.size w10 wr)
          case first =>
            have hS9 : StandAt w10.drew N re ev aw mw aa' ma' adl.length ac' ms.length mc' r := hS
            have hM9 : StrsAt w10.drew ma' ms := hM
            have hPT : StrsAt w10.drew (if pc' = c then pa' else pa'.map (fun x => x.add c)) (ps.drop c) := hP.drop c pc' hpc'
            have hMN9 : MapNames w10.drew r F := hMN
            by_cases hcc : pc' = c
            · subst hcc
              rw [if_pos rfl] at hPT
              go_region_held3 (fun w' => w'.cell? ⟨N, 0, none⟩ = some (.bool re) ∧ w'.cell? ⟨N, 1, none⟩ = some (.bool ev) ∧ w'.cell? ⟨N, 2, none⟩ = some (.bool aw) ∧ w'.cell? ⟨N, 3, none⟩ = some (.slice aa' adl.length ac') ∧ w'.cell? ⟨N, 4, none⟩ = some (.map (some r)) ∧ w'.cell? ⟨N, 5, none⟩ = some (.bool mw) ∧ w'.cell? ⟨N, 6, none⟩ = some (.slice ma' ms.length mc')) (first | exact hS9 | exact hS9.below hb11)
                (first
                  | (go_at_call 9; refine (callMay_len re ev aw mw aa' ma' _ adl.length ac' mc' _ r 0 ms (ps.drop pc') table F _ h4 hM9 (by simp; omega) (by unfold maxLen; omega) hPT hMN9).mono ?_; rintro e w11 ⟨rfl, hb11⟩))
              go_wp2
              go_meet
              case rel => exact ⟨rfl, ((Below.refl _ _).drew).trans hb11⟩
            · rw [if_neg hcc] at hPT
              go_region_held3 (fun w' => w'.cell? ⟨N, 0, none⟩ = some (.bool re) ∧ w'.cell? ⟨N, 1, none⟩ = some (.bool ev) ∧ w'.cell? ⟨N, 2, none⟩ = some (.bool aw) ∧ w'.cell? ⟨N, 3, none⟩ = some (.slice aa' adl.length ac') ∧ w'.cell? ⟨N, 4, none⟩ = some (.map (some r)) ∧ w'.cell? ⟨N, 5, none⟩ = some (.bool mw) ∧ w'.cell? ⟨N, 6, none⟩ = some (.slice ma' ms.length mc')) (first | exact hS9 | exact hS9.below hb11)
                (first
                  | (go_at_call 9; refine (callMay_len re ev aw mw aa' ma' _ adl.length ac' mc' _ r (ps.length - c) ms (ps.drop c) table F _ h4 hM9 (unhide HLD) (by unfold maxLen; omega) hPT hMN9).mono ?_; rintro e w11 ⟨rfl, hb11⟩))
              go_wp2
              go_meet
              case rel => exact ⟨rfl, ((Below.refl _ _).drew).trans hb11⟩
          rename World => w11
          obtain ⟨rfl, hb'⟩ := hcut
          replace hM := hM.below hb'
          replace hP := hP.below hb'
          replace hR := hR.below hb'
          replace hMN := hMN.below hb'
          replace hS := hS.below hb'
          replace hB := hB.trans (hb'.mono hB.size)
          obtain ⟨br, hbr⟩ : ∃ b, b = (ev || mayB mw ms (F table) table (ps.drop c)) := ⟨_, rfl⟩
          rw [← hbr]
          have HBR := hide hbr
          clear hbr hb'
          as_aux_lemma =>
            obtain ⟨s0, s1, s2, s3, s4, s5, s6⟩ := hS
            have hlr : ps.reverse.length = ps.length := by simp
            have HLR := hide hlr
            clear hlr
            go_wp2_with fail
            refine (callMay_len re ev aw mw aa' ma' (some ⟨w5.heap.size, 0, none⟩) adl.length ac' mc' ps.length r ps.length ms ps.reverse table F w11 h4 hM (unhide HLR) h5 hR hMN).mono ?_
            rintro e w12 ⟨rfl, hb12⟩
            have hS : StandAt w11 N re ev aw mw aa' ma' adl.length ac' ms.length mc' r := ⟨s0, s1, s2, s3, s4, s5, s6⟩
            clear s0 s1 s2 s3 s4 s5 s6 hR
            have hb' : Below w11.heap.size w11 w12 := hb12
            replace hM := hM.below hb'
            replace hP := hP.below hb'
            replace hMN := hMN.below hb'
            replace hS := hS.below hb'
            replace hB := hB.trans (hb'.mono hB.size)
            obtain ⟨bb, hbb⟩ : ∃ b, b = (ev || mayB mw ms (F table) table (ps.reverse)) := ⟨_, rfl⟩
            rw [← hbb]
            have HBB := hide hbb
            clear hbb hb12 hb'
            go_wp2_with fail
            have hS9 : StandAt w12.drew N re ev aw mw aa' ma' adl.length ac' ms.length mc' r := hS
            have hM9 : StrsAt w12.drew ma' ms := hM
            have hPT : StrsAt w12.drew pa' [] := StrsAt.nil _ _
            have hMN9 : MapNames w12.drew r F := hMN
            have i4 : (0 : Int) ≤ (pc' : Int) := by omega
            go_region_held3 (fun w' => w'.cell? ⟨N, 0, none⟩ = some (.bool re) ∧ w'.cell? ⟨N, 1, none⟩ = some (.bool ev) ∧ w'.cell? ⟨N, 2, none⟩ = some (.bool aw) ∧ w'.cell? ⟨N, 3, none⟩ = some (.slice aa' adl.length ac') ∧ w'.cell? ⟨N, 4, none⟩ = some (.map (some r)) ∧ w'.cell? ⟨N, 5, none⟩ = some (.bool mw) ∧ w'.cell? ⟨N, 6, none⟩ = some (.slice ma' ms.length mc')) (first | exact hS9 | exact hS9.below hb13)
              (first
                | (go_at_call 9; refine (callMay_len re ev aw mw aa' ma' _ adl.length ac' mc' _ r 0 ms [] table F _ h4 hM9 rfl (by unfold maxLen; omega) hPT hMN9).mono ?_; rintro e w13 ⟨rfl, hb13⟩))
            clear hS9 hM9 hPT hMN9
            have hb' : Below w12.heap.size w12 w13 := ((Below.refl _ _).drew).trans hb13
            replace hM := hM.below hb'
            replace hP := hP.below hb'
            replace hMN := hMN.below hb'
            replace hS := hS.below hb'
            replace hB := hB.trans (hb'.mono hB.size)
            obtain ⟨bn, hbn⟩ : ∃ b, b = (ev || mayB mw ms (F table) table ([])) := ⟨_, rfl⟩
            rw [← hbn]
            have HBN := hide hbn
            clear hbn hb13 hb'
            as_aux_lemma =>
              go_upto_region 40 with fail
              go_cut [38] (fun v wr => v = .bool (ev || mw || has ms table) ∧ Below w13.heap.size w13 wr)
              case first =>
                cases ev with
                | true =>
                  go_wp2
                  go_meet
                  case rel => exact ⟨by simp, Below.refl _ _⟩
                | false =>
                  cases mw with
                  | true =>
                    go_wp2
                    go_meet
                    case rel => exact ⟨by simp, Below.refl _ _⟩
                  | false =>
                    go_wp2_with (go_at_call 10; refine (hasGo_any ma' mc' ms table w13 h4 hM).mono ?_; rintro e w' ⟨rfl, rfl⟩)
                    go_meet
                    case rel => exact ⟨by simp, Below.refl _ _⟩
              rename World => w14
              obtain ⟨rfl, hb'⟩ := hcut
              replace hB := hB.trans (hb'.mono hB.size)
              obtain ⟨bm, hbm⟩ : ∃ b, b = (ev || mw || has ms table) := ⟨_, rfl⟩
              rw [← hbm]
              obtain ⟨q1, q2, q3, q4⟩ := plain3 ev mw ms (F table) table ps c
              rw [← unhide HBW, ← unhide HBL, ← unhide HBR] at q1
              rw [← unhide HBW, ← unhide HBB] at q2
              rw [← unhide HBN] at q3
              rw [← unhide HBW, ← hbm] at q4
              subst q2 q3
              clear hbm HBW HBL HBR HBB HBN hM hP hMN hS hb'
              have hfin : Below w.heap.size w w14 := (unhide HB0).trans (hB.mono (unhide HB0).size)
              cases bl <;> cases br <;> cases bm
              all_goals
                simp only [Bool.and_true, Bool.and_false, Bool.and_self] at q1
                subst q1
                first
                  | exact absurd (q4 rfl) (by decide)
                  | (clear q4
                     go_wp2
                     go_ret
                     exact ⟨rfl, hfin⟩)

end Go.Proofs.Qxb6614881a
