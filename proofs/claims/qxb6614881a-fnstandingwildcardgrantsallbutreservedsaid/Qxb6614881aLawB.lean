import Derived.Test.Qxb6614881aTailA
import Derived.Test.Qxb6614881aBytesB
namespace Go.Proofs.Qxb6614881a
open Go.RowKit

set_option maxRecDepth 100000 in
set_option maxHeartbeats 4000000 in
theorem law4 (re ev aw mw : Bool) (aa ta wa la ma pa : Option Addr) (ac tc wcc lc mc pc : Nat) (adl ts ms ps : List ByteArray) (ws : List Bool) (ls : List (List ByteArray)) (table : ByteArray) (w : World)
    (h1 : adl.length ≤ maxLen) (hA : StrsAt w aa adl) (h2 : ts.length ≤ maxLen) (hT : StrsAt w ta ts) (hW : BoolsAt w wa ws) (h3 : ls.length ≤ maxLen) (hL : ListsAt w la ls) (h4 : ms.length ≤ maxLen) (hM : StrsAt w ma ms) (h5 : ps.length ≤ maxLen) (hP : StrsAt w pa ps) :
    Calls Try.prog 4 #[.bool re, .bool ev, .bool aw, .slice aa adl.length ac, .slice ta ts.length tc, .slice wa ws.length wcc, .slice la ls.length lc, .bool mw, .slice ma ms.length mc, .string table, .slice pa ps.length pc] w
      fun e w' => e = .returned (.bool true) ∧ Below w.heap.size w w' := by
  go_enter Try.func4, Try.ntmps4
  go_wp2_with fail
  refine (bytes11_any re ev aw mw aa ta wa la ma pa ac tc wcc lc mc pc adl ts ms ps ws ls table w h1 hA h2 hT h3 hL h4 hM h5 hP).mono ?_
  rintro e w' ⟨⟨r, rfl, hlens⟩, rfl⟩
  rename World => w
  cases r with
  | false =>
    go_wp2
    go_ret
    exact ⟨rfl, Below.refl _ _⟩
  | true =>
  obtain ⟨l1, l2, l3, l4, l5, l6⟩ := hlens rfl
  clear hlens
  go_wp2_with fail
  refine (standingBytes_any aa ta wa la ma pa ac tc wcc lc mc pc adl ts ms ps ws ls table w h1 hA h2 hT h3 hL h4 hM h5 hP).mono ?_
  rintro e w' ⟨⟨n, rfl⟩, rfl⟩
  rename World => w
  by_cases hn : (1048576 : Int) < n
  · go_wp2
    go_ret
    exact ⟨rfl, Below.refl _ _⟩
  go_wp2_with fail
  refine (wellFormed_any aa ta wa la ma ac tc wcc lc mc adl ts ms ws ls w h1 hA h2 hT h3 hL h4 hM).mono ?_
  rintro e w0 ⟨⟨r, rfl, hr⟩, hb0⟩
  cases r with
  | false =>
    go_wp2
    go_ret
    exact ⟨rfl, hb0⟩
  | true =>
  obtain ⟨hws, hls, hsrt⟩ := hr rfl
  have HSRT := hide hsrt
  have HWS := hide hws
  have HLS := hide hls
  replace hA := hA.below hb0
  replace hT := hT.below hb0
  replace hW := hW.below hb0
  replace hL := hL.below hb0
  replace hM := hM.below hb0
  replace hP := hP.below hb0
  have HB0 := hide hb0
  clear hr hws hls hsrt hn hb0
  have q22 := neq_nil 22 9 Try.underlying22
  have q23 := neq_nil 23 4 Try.underlying23
  obtain ⟨i9, hi9, y0, y1, y2⟩ := info_parts Try.info9
  obtain ⟨i4, hi4, x0, x1, x2⟩ := info_parts Try.info4
  have hby0 : i9.bytes * adl.length ≤ 281474976710656 := by rw [y2]; omega
  go_upto_if 76 with fail
  go_cut [3] (fun v wr => ∃ a c, v = .slice a adl.length c ∧ StrsAt wr a adl ∧ Below w0.heap.size w0 wr)
  case first =>
   as_aux_lemma =>
    cases aa with
    | none =>
      go_wp2
      go_meet
      case rel => exact ⟨none, ac, rfl, hA, Below.refl _ _⟩
    | some a =>
      go_wp2_with (first
        | (at_make; refine wpList_make_full _ rfl _ _ 22 rfl w0.heap.size 9 i9 _ 1 Try.underlying22 hi9 y0 y1 .i64 .i64 _ _ adl.length rfl rfl rfl rfl hby0 (by unfold maxLen; omega) (Nat.le_refl _) ?_; intro v1 hown1 hgr1; obtain ⟨cur, hcur, hcl, hBg⟩ := own_block hown1; have bl1 : Below w0.heap.size w0 v1 := (Below.refl _ _).grown hgr1 (Nat.le_refl _) (by simp); have hsrc := (hA.below bl1).src)
        | (refine wpList_copy_splice rfl (.tmp 80) (.tmp 81) 22 22 rfl 9 Try.underlying22 Try.one9 _ _ _ _ _ _ rfl rfl w0.heap.size 0 cur 9 hcur (adl.map Value.string) (by simp) (fun _ => ⟨rfl, a, rfl, hsrc⟩) (by simp; omega) (strs_one _) w0.heap.size w0 bl1 (Nat.le_refl _) ?_; intro v2 hg2 hb2))
      go_meet
      case rel => exact ⟨some ⟨w0.heap.size, 0, none⟩, _, rfl, strsAt_of_block (rest := cur.drop adl.length) (by simpa [splice] using Hid.out hg2), hb2⟩
  rename World => w1
  obtain ⟨aa', ac', rfl, hA', hb⟩ := hcut
  replace hT := hT.below hb
  replace hW := hW.below hb
  replace hL := hL.below hb
  replace hM := hM.below hb
  replace hP := hP.below hb
  replace hA := hA'
  have hB := hb
  clear hb hby0 hA'
  have hby1 : i9.bytes * ts.length ≤ 281474976710656 := by rw [y2]; omega
  go_upto_if 85 with fail
  go_cut [4] (fun v wr => ∃ a c, v = .slice a ts.length c ∧ StrsAt wr a ts ∧ Below w1.heap.size w1 wr)
  case first =>
   as_aux_lemma =>
    cases ta with
    | none =>
      go_wp2
      go_meet
      case rel => exact ⟨none, tc, rfl, hT, Below.refl _ _⟩
    | some a =>
      go_wp2_with (first
        | (at_make; refine wpList_make_full _ rfl _ _ 22 rfl w1.heap.size 9 i9 _ 1 Try.underlying22 hi9 y0 y1 .i64 .i64 _ _ ts.length rfl rfl rfl rfl hby1 (by unfold maxLen; omega) (Nat.le_refl _) ?_; intro v1 hown1 hgr1; obtain ⟨cur, hcur, hcl, hBg⟩ := own_block hown1; have bl1 : Below w1.heap.size w1 v1 := (Below.refl _ _).grown hgr1 (Nat.le_refl _) (by simp); have hsrc := (hT.below bl1).src)
        | (refine wpList_copy_splice rfl (.tmp 89) (.tmp 90) 22 22 rfl 9 Try.underlying22 Try.one9 _ _ _ _ _ _ rfl rfl w1.heap.size 0 cur 9 hcur (ts.map Value.string) (by simp) (fun _ => ⟨rfl, a, rfl, hsrc⟩) (by simp; omega) (strs_one _) w1.heap.size w1 bl1 (Nat.le_refl _) ?_; intro v2 hg2 hb2))
      go_meet
      case rel => exact ⟨some ⟨w1.heap.size, 0, none⟩, _, rfl, strsAt_of_block (rest := cur.drop ts.length) (by simpa [splice] using Hid.out hg2), hb2⟩
  rename World => w2
  obtain ⟨ta', tc', rfl, hT', hb⟩ := hcut
  replace hA := hA.below hb
  replace hW := hW.below hb
  replace hL := hL.below hb
  replace hM := hM.below hb
  replace hP := hP.below hb
  replace hT := hT'
  replace hB := hB.trans (hb.mono hB.size)
  clear hb hby1 hT'
  have hby2 : i4.bytes * ws.length ≤ 281474976710656 := by rw [x2]; omega
  go_upto_if 94 with fail
  go_cut [5] (fun v wr => ∃ a c, v = .slice a ws.length c ∧ BoolsAt wr a ws ∧ Below w2.heap.size w2 wr)
  case first =>
   as_aux_lemma =>
    cases wa with
    | none =>
      go_wp2
      go_meet
      case rel => exact ⟨none, wcc, rfl, hW, Below.refl _ _⟩
    | some a =>
      go_wp2_with (first
        | (at_make; refine wpList_make_full _ rfl _ _ 23 rfl w2.heap.size 4 i4 _ 1 Try.underlying23 hi4 x0 x1 .i64 .i64 _ _ ws.length rfl rfl rfl rfl hby2 (by unfold maxLen; omega) (Nat.le_refl _) ?_; intro v1 hown1 hgr1; obtain ⟨cur, hcur, hcl, hBg⟩ := own_block hown1; have bl1 : Below w2.heap.size w2 v1 := (Below.refl _ _).grown hgr1 (Nat.le_refl _) (by simp); have hsrc := (hW.below bl1).src)
        | (refine wpList_copy_splice rfl (.tmp 98) (.tmp 99) 23 23 rfl 4 Try.underlying23 Try.one4 _ _ _ _ _ _ rfl rfl w2.heap.size 0 cur 4 hcur (ws.map Value.bool) (by simp) (fun _ => ⟨rfl, a, rfl, hsrc⟩) (by simp; omega) (bools_one _) w2.heap.size w2 bl1 (Nat.le_refl _) ?_; intro v2 hg2 hb2))
      go_meet
      case rel => exact ⟨some ⟨w2.heap.size, 0, none⟩, _, rfl, boolsAt_of_block (rest := cur.drop ws.length) (by simpa [splice] using Hid.out hg2), hb2⟩
  rename World => w3
  obtain ⟨wa', wcc', rfl, hW', hb⟩ := hcut
  replace hA := hA.below hb
  replace hT := hT.below hb
  replace hL := hL.below hb
  replace hM := hM.below hb
  replace hP := hP.below hb
  replace hW := hW'
  replace hB := hB.trans (hb.mono hB.size)
  clear hb hby2 hW'
  have hby3 : i9.bytes * ms.length ≤ 281474976710656 := by rw [y2]; omega
  go_upto_if 103 with fail
  go_cut [8] (fun v wr => ∃ a c, v = .slice a ms.length c ∧ StrsAt wr a ms ∧ Below w3.heap.size w3 wr)
  case first =>
   as_aux_lemma =>
    cases ma with
    | none =>
      go_wp2
      go_meet
      case rel => exact ⟨none, mc, rfl, hM, Below.refl _ _⟩
    | some a =>
      go_wp2_with (first
        | (at_make; refine wpList_make_full _ rfl _ _ 22 rfl w3.heap.size 9 i9 _ 1 Try.underlying22 hi9 y0 y1 .i64 .i64 _ _ ms.length rfl rfl rfl rfl hby3 (by unfold maxLen; omega) (Nat.le_refl _) ?_; intro v1 hown1 hgr1; obtain ⟨cur, hcur, hcl, hBg⟩ := own_block hown1; have bl1 : Below w3.heap.size w3 v1 := (Below.refl _ _).grown hgr1 (Nat.le_refl _) (by simp); have hsrc := (hM.below bl1).src)
        | (refine wpList_copy_splice rfl (.tmp 107) (.tmp 108) 22 22 rfl 9 Try.underlying22 Try.one9 _ _ _ _ _ _ rfl rfl w3.heap.size 0 cur 9 hcur (ms.map Value.string) (by simp) (fun _ => ⟨rfl, a, rfl, hsrc⟩) (by simp; omega) (strs_one _) w3.heap.size w3 bl1 (Nat.le_refl _) ?_; intro v2 hg2 hb2))
      go_meet
      case rel => exact ⟨some ⟨w3.heap.size, 0, none⟩, _, rfl, strsAt_of_block (rest := cur.drop ms.length) (by simpa [splice] using Hid.out hg2), hb2⟩
  rename World => w4
  obtain ⟨ma', mc', rfl, hM', hb⟩ := hcut
  replace hA := hA.below hb
  replace hT := hT.below hb
  replace hW := hW.below hb
  replace hL := hL.below hb
  replace hP := hP.below hb
  replace hM := hM'
  replace hB := hB.trans (hb.mono hB.size)
  clear hb hby3 hM'
  have hby4 : i9.bytes * ps.length ≤ 281474976710656 := by rw [y2]; omega
  go_upto_if 112 with fail
  go_cut [10] (fun v wr => ∃ a c, v = .slice a ps.length c ∧ StrsAt wr a ps ∧ Below w4.heap.size w4 wr)
  case first =>
   as_aux_lemma =>
    cases pa with
    | none =>
      go_wp2
      go_meet
      case rel => exact ⟨none, pc, rfl, hP, Below.refl _ _⟩
    | some a =>
      go_wp2_with (first
        | (at_make; refine wpList_make_full _ rfl _ _ 22 rfl w4.heap.size 9 i9 _ 1 Try.underlying22 hi9 y0 y1 .i64 .i64 _ _ ps.length rfl rfl rfl rfl hby4 (by unfold maxLen; omega) (Nat.le_refl _) ?_; intro v1 hown1 hgr1; obtain ⟨cur, hcur, hcl, hBg⟩ := own_block hown1; have bl1 : Below w4.heap.size w4 v1 := (Below.refl _ _).grown hgr1 (Nat.le_refl _) (by simp); have hsrc := (hP.below bl1).src)
        | (refine wpList_copy_splice rfl (.tmp 116) (.tmp 117) 22 22 rfl 9 Try.underlying22 Try.one9 _ _ _ _ _ _ rfl rfl w4.heap.size 0 cur 9 hcur (ps.map Value.string) (by simp) (fun _ => ⟨rfl, a, rfl, hsrc⟩) (by simp; omega) (strs_one _) w4.heap.size w4 bl1 (Nat.le_refl _) ?_; intro v2 hg2 hb2))
      go_meet
      case rel => exact ⟨some ⟨w4.heap.size, 0, none⟩, _, rfl, strsAt_of_block (rest := cur.drop ps.length) (by simpa [splice] using Hid.out hg2), hb2⟩
  rename World => w5
  obtain ⟨pa', pc', rfl, hP', hb⟩ := hcut
  replace hA := hA.below hb
  replace hT := hT.below hb
  replace hW := hW.below hb
  replace hL := hL.below hb
  replace hM := hM.below hb
  replace hP := hP'
  replace hB := hB.trans (hb.mono hB.size)
  clear hb hby4 hP'
  clear hi4 x0 x1 x2 hi9 y0 y1 y2 q22 q23
  go_upto_region 27 with (go_at_K; apply_assumption; exact tailA re ev aw mw aa' ma' ta' wa' la pa' adl.length ac' mc' tc' wcc' lc pc' ts ms ps ws ls table _ _ _ _ _ _ _ _ _ _ _ _ _ _ _ _ _ _ _ _ _ _ _ _ _ _ _ _ _ _ _ _ _ _ _ _ _ _ _ _ _ _ _ _ _ _ _ _ _ _ _ _ _ _ _ _ _ _ _ _ _ _ _ _ _ _ _ _ _ _ _ _ _ _ _ _ _ _ _ _ _ _ _ _ _ _ _ _ _ _ _ _ _ _ _ _ _ _ _ _ _ _ _ _ _ _ _ _ _ _ _ _ _ _ _ _ _ _ _ _ _ _ _ _ _ _ _ _ _ _ _ _ _ _ _ _ _ _ _ _ _ _ _ _ _ _ _ _ _ _ _ _ _ _ _ _ _ _ _ _ _ _ _ _ _ _ _ _ _ _ _ _ _ _ _ _ _ _ _ _ _ _ _ _ _ _ _ _ _ _ _ _ _ _ _ _ _ _ _ _ _ _ _ _ _ _ _ _ _ _ _ _ _ _ _ _ _ _ _ _ _ _ _ _ _ _ _ _ _ _ _ _ _ _ _ _ _ _ _ _ _ _ _ _ _ _ _ _ _ _ _ _ _ _ _ _ _ _ _ _ _ _ _ _ _ _ _ _ _ _ _ _ _ _ _ _ _ _ l2 h4 l6 (unhide HWS) (unhide HLS) hT hW hL hM hP ((unhide HB0).trans (hB.mono (unhide HB0).size)) (unhide HSRT))
end Go.Proofs.Qxb6614881a
