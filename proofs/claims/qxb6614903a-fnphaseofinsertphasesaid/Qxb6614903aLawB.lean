import Derived.Test.Qxb6614903aPut
namespace Go.Proofs.Qxb6614903a
open Go.RowKit

theorem phaseList_len2 (ao : Option Addr) (cap n : Nat) (ls : List (List ByteArray)) (w : World) (hn : ls.length = n) (hl : ls.length ≤ 1048577) (hm : ∀ k (hk : k < ls.length), ls[k].length ≤ 1048576) (h : ListsAt w ao ls) :
    Calls Try.prog 20 #[.slice ao n cap] w fun e w' => (∃ go c, e = .returned (.slice go ls.length c) ∧ PhAt w' go ls) ∧ Below w.heap.size w w' := by
  subst hn
  exact phaseList_wide ao cap ls w hl hm h

set_option maxRecDepth 100000 in
set_option maxHeartbeats 4000000 in
theorem law6 (ao da : Option Addr) (cap dc : Nat) (ls : List (List ByteArray)) (cc : Int) (ad : List ByteArray) (v : ByteArray) (w : World) (hl : ls.length ≤ maxLen) (h : ListsAt w ao ls) (hcap : ls.length ≤ cap) (hnil : ao = none → cap = 0) (hdl : ad.length ≤ maxLen) (hd : StrsAt w da ad) :
    Calls Try.prog 6 #[.slice ao ls.length cap, .int .i64 cc, .slice da ad.length dc, .string v] w fun e w' => e = .returned (.bool true) ∧ Below w.heap.size w w' := by
  obtain ⟨i70, hi70, y0, y1, y2⟩ := info_parts Try.info70
  have HNIL := hide hnil
  clear hnil
  go_enter Try.func6, Try.ntmps6
  go_wp2_with fail
  refine (bytes24_any ao da cap dc ls cc ad v w hl h hdl hd).mono ?_
  rintro e w' ⟨⟨r, rfl, hlens⟩, rfl⟩
  rename World => w
  cases r with
  | false =>
    go_wp2
    go_ret
    exact ⟨rfl, Below.refl _ _⟩
  | true =>
  obtain ⟨⟨l1, l2⟩, l3⟩ := hlens rfl
  clear hlens
  go_wp2_with fail
  refine (over_any ao da cap dc ls ad v w hl h hdl hd).mono ?_
  rintro e w' ⟨⟨r, rfl, -⟩, rfl⟩
  rename World => w
  cases r with
  | true =>
    go_wp2
    go_ret
    exact ⟨rfl, Below.refl _ _⟩
  | false =>
  by_cases hc0 : cc < 0
  · go_wp2
    go_ret
    exact ⟨rfl, Below.refl _ _⟩
  by_cases hc1 : (ls.length : Int) < cc
  · go_wp2
    go_ret
    exact ⟨rfl, Below.refl _ _⟩
  obtain ⟨c, rfl⟩ : ∃ c : Nat, cc = c := ⟨cc.toNat, by omega⟩
  have hcl : c ≤ ls.length := by omega
  have i1 : (0 : Int) ≤ (c : Int) := by omega
  have i2 : (c : Int) ≤ (ls.length : Int) := by omega
  have i3 : (c : Int) ≤ (cap : Int) := by omega
  obtain ⟨vs, hvs, hva⟩ := h.vals
  have hvl := hvs.1
  have HVL := hide hvl
  have hsv : SlcOf w (.slice da ad.length dc) ad := ⟨da, dc, rfl, hd, hdl⟩
  clear hvl
  have by70 : i70.bytes * (ls.length + 1) ≤ 281474976710656 := by rw [y2]; omega
  have ht : (vs.take c).length = c * 1 := by have := unhide HVL; simp; omega
  have HT := hide ht
  have HVA := hide hva
  have HVS := hide hvs
  clear ht hva hvs
  go_upto_region 8 with (at_make; refine wpList_make_own _ rfl _ _ 34 rfl w.heap.size 70 i70 _ 1 Try.underlying34 hi70 y0 y1 .i64 .i64 _ (ls.length + 1) rfl rfl (by push_cast; rfl) by70 (by unfold maxLen; omega) (Nat.le_refl _) ?_; intro w1 o1 gr1)
  have hb1 : Below w.heap.size w w1 := (Below.refl _ _).grown gr1 (Nat.le_refl _) (by simp)
  clear gr1
  go_upto_region 9 with (at_builtin; refine wpList_append_fits_any _ rfl (.tmp 40) (.tmp 43) 34 rfl w.heap.size 70 i70 1 Try.underlying34 hi70 y1 w.heap.size 0 (ls.length + 1) [] rfl o1 _ c _ (vs.take c) rfl (unhide HT) (fun e => by have := unhide HNIL e; exact ⟨by omega, by omega⟩) (((unhide HVA).below hb1).take c).news ((unhide HVS).take c).one (by omega) ?_; intro w2 o2 gr2)
  have hb2 : Below w.heap.size w w2 := hb1.grown gr2 hb1.size (by intro k e; cases e; exact Nat.le_refl _)
  clear gr2 o1 hb1
  rw [Nat.zero_add, List.nil_append] at o2
  go_upto_region 10 with (at_builtin; refine wpList_append_fits _ rfl (.tmp 45) (.tmp 47) 34 rfl w.heap.size 70 i70 1 Try.underlying34 hi70 y1 w.heap.size c (ls.length + 1) (vs.take c) rfl (o2.alloc _) ⟨w2.heap.size, 0, none⟩ 1 1 [.slice da ad.length dc] rfl rfl (World.news_of_block (heap_alloc_new w2 _)) (one_slc _ _ _) (by omega) ?_; intro w3 o3 gr3)
  have hb3 : Below w.heap.size w w3 := (hb2.alloc hb2.size _).grown gr3 ((hb2.alloc hb2.size _).size) (by intro k e; cases e; exact Nat.le_refl _)
  clear gr3 o2 hb2
  have hvd := ((unhide HVA).below hb3).drop c cap (by rw [unhide HVL]; exact hcap)
  have hS : SlcsOf w (vs.take c ++ [.slice da ad.length dc] ++ vs.drop c) (put ls c ad) := (((unhide HVS).take c).app (SlcsOf.single hsv)).app ((unhide HVS).drop c)
  have HS := hide hS
  have hn : (vs.drop c).length = (ls.length - c) * 1 := by rw [← unhide HVL]; simp
  have HN := hide hn
  have he : c + 1 + (ls.length - c) = ls.length + 1 := by omega
  have HE := hide he
  clear hS hn HVA HT he
  have hone : ∀ u ∈ vs.drop c, u.oneCell' = true := ((unhide HVS).drop c).one
  clear HVS
  go_cut [9] (fun x wr => ∃ g k, x = .slice (some ⟨g, 0, none⟩) (ls.length + 1) k ∧ ListsAt wr (some ⟨g, 0, none⟩) (put ls c ad) ∧ Below w.heap.size w wr)
  case first =>
    by_cases hcc : cap = c
    · rw [if_pos hcc] at hvd
      subst hcc
      go_wp2_with (at_builtin; (refine wpList_append_fits_any _ rfl (.tmp 49) (.tmp 52) 34 rfl w.heap.size 70 i70 1 Try.underlying34 hi70 y1 w.heap.size (cap + 1) (ls.length + 1) (vs.take cap ++ [.slice da ad.length dc]) rfl o3 _ 0 _ (vs.drop cap) rfl (by rw [unhide HN]; omega) (fun e => ⟨rfl, rfl⟩) hvd.news hone (by omega) ?_); intro w4 o4 gr4)
      have hb4 : Below w.heap.size w w4 := hb3.grown gr4 hb3.size (by intro k e; cases e; exact Nat.le_refl _)
      go_meet
      case rel => exact ⟨_, _, by rw [show cap + 1 = ls.length + 1 by have := unhide HE; omega], own_lists o4 ((unhide HS).below hb4), hb4⟩
    · rw [if_neg hcc] at hvd
      go_wp2_with (at_builtin; (refine wpList_append_fits_any _ rfl (.tmp 49) (.tmp 52) 34 rfl w.heap.size 70 i70 1 Try.underlying34 hi70 y1 w.heap.size (c + 1) (ls.length + 1) (vs.take c ++ [.slice da ad.length dc]) rfl o3 _ (ls.length - c) _ (vs.drop c) rfl (unhide HN) (fun e => by have := unhide HNIL (by simpa using e); exact ⟨by omega, by omega⟩) hvd.news hone (by omega) ?_); intro w4 o4 gr4)
      have hb4 : Below w.heap.size w w4 := hb3.grown gr4 hb3.size (by intro k e; cases e; exact Nat.le_refl _)
      go_meet
      case rel => exact ⟨_, _, by rw [unhide HE], own_lists o4 ((unhide HS).below hb4), hb4⟩
  rename World => w4
  obtain ⟨g, gc, rfl, hP, hb4⟩ := hcut
  have hpl : (put ls c ad).length = ls.length + 1 := put_len ls c ad hcl
  have HPL := hide hpl
  have HPS := hide (put_short (c := c) l2 l3)
  have hd4 := hd.below hb4
  have h4 := h.below hb4
  clear hpl h hd hvd o3 hb3 HS HN HE hone hi70 y0 y1 y2 by70 HVL hsv
  go_wp2_with fail
  refine (phaseList_any ao cap ls w4 l1 l2 h4).mono ?_
  rintro e w5 ⟨⟨sa, sc, rfl, hS⟩, hb5⟩
  have h5 := h4.below hb5
  have hd5 := hd4.below hb5
  have hP5 := hP.below hb5
  have hB5 : Below w.heap.size w w5 := hb4.trans (hb5.mono hb4.size)
  clear h4 hd4 hP hb4 hb5
  go_upto_region 12 with fail
  obtain ⟨w6, hw6⟩ : ∃ w6, w6 = w5.alloc (csv (.slice sa ls.length sc)) := ⟨_, rfl⟩
  have hb6 : Below w5.heap.size w5 w6 := by rw [hw6]; exact (Below.refl _ _).alloc (Nat.le_refl _) _
  have hs6 : w6.cell? ⟨w5.heap.size, 24, none⟩ = some (.slice sa ls.length sc) := by rw [hw6]; exact csv_at _ _
  rw [← hw6]
  have h6 := h5.below hb6
  have hd6 := hd5.below hb6
  have hP6 := hP5.below hb6
  have hS6 := hS.below hb6
  have hB6 : Below w.heap.size w w6 := hB5.trans (hb6.mono hB5.size)
  generalize w5.heap.size = N1 at hs6 ⊢
  clear h5 hd5 hP5 hS hB5 hb6 hw6
  go_wp2_with fail
  refine (phaseList_len2 (some ⟨g, 0, none⟩) gc (ls.length + 1) (put ls c ad) w6 (unhide HPL) (by rw [unhide HPL]; omega) (unhide HPS) hP6).mono ?_
  rintro e w7 ⟨⟨aa, ac, rfl, hA⟩, hb7⟩
  rw [unhide HPL]
  have h7 := h6.below hb7
  have hd7 := hd6.below hb7
  have hS7 := hS6.below hb7
  have hs7 := cell_below hs6 hb7
  have hB7 : Below w.heap.size w w7 := hB6.trans (hb7.mono hB6.size)
  clear h6 hd6 hS6 hs6 hB6 hb7 hP6
  go_upto_region 13 with fail
  obtain ⟨w8, hw8⟩ : ∃ w8, w8 = w7.alloc (csv (.slice aa (ls.length + 1) ac)) := ⟨_, rfl⟩
  have hb8 : Below w7.heap.size w7 w8 := by rw [hw8]; exact (Below.refl _ _).alloc (Nat.le_refl _) _
  have ha8 : w8.cell? ⟨w7.heap.size, 24, none⟩ = some (.slice aa (ls.length + 1) ac) := by rw [hw8]; exact csv_at _ _
  rw [← hw8]
  have h8 := h7.below hb8
  have hd8 := hd7.below hb8
  have hS8 := hS7.below hb8
  have hs8 := cell_below hs7 hb8
  have hA8 := hA.below hb8
  have hB8 : Below w.heap.size w w8 := hB7.trans (hb8.mono hB7.size)
  generalize w7.heap.size = N2 at ha8 ⊢
  clear h7 hd7 hS7 hs7 hA hB7 hb8 hw8
  go_wp2_with fail
  refine (phaseOf_len N1 sa sc ls.length ls v w8 rfl (by unfold maxLen; omega) hS8 hs8).mono ?_
  rintro e w9 ⟨⟨pw, rfl, anw⟩, hbq⟩
  replace h8 := h8.below hbq
  replace hd8 := hd8.below hbq
  replace hA8 := hA8.below hbq
  replace hs8 := cell_below hs8 hbq
  replace ha8 := cell_below ha8 hbq
  replace hB8 := hB8.trans (hbq.mono hB8.size)
  have ANw := hide anw
  clear hbq anw hS8
  go_wp2_with fail
  refine (phaseOf_len N2 aa ac (ls.length + 1) (put ls c ad) v w9 (unhide HPL) (by unfold maxLen; omega) hA8 ha8).mono ?_
  rintro e w10 ⟨⟨pa, rfl, ana⟩, hbq⟩
  replace h8 := h8.below hbq
  replace hd8 := hd8.below hbq
  replace hs8 := cell_below hs8 hbq
  replace ha8 := cell_below ha8 hbq
  replace hB8 := hB8.trans (hbq.mono hB8.size)
  have ANa := hide ana
  clear hbq ana hA8
  go_wp2_with fail
  refine (firstPhase_any ao cap ls v w10 hl h8).mono ?_
  rintro e w' ⟨rfl, rfl⟩
  rename World => w10
  go_wp2_with fail
  refine (answer_any N1 sa sc ls.length (first ls v) (first ls v) pw w10 (first_lt _ _) (unhide ANw) rfl hs8).mono ?_
  rintro e w' ⟨rfl, rfl⟩
  rename World => w10
  have key := first_put ls c ad v hcl
  have hlt : first (put ls c ad) v < (ls.length + 1 : Nat) := by have := first_lt (put ls c ad) v; rw [unhide HPL] at this; exact this
  have hlt1 := first_lt ls v
  have hge1 := first_ge ls v
  generalize first (put ls c ad) v = f2 at *
  generalize first ls v = f1 at *
  have KEY := hide key
  have ANA := hide (unhide ANa)
  clear key h8 hs8 ANw HPL HPS
  by_cases h1 : 0 ≤ f1 ∧ f1 < c
  · have e : f2 = f1 := by have := unhide KEY; rw [if_pos h1] at this; exact this
    obtain ⟨h11, h12⟩ := h1
    have HEQ := hide e
    clear e KEY
    go_wp2_with fail
    refine (answer_any N2 aa ac (ls.length + 1) f2 f1 pa w10 hlt (unhide ANa) (unhide HEQ) ha8).mono ?_
    rintro e w' ⟨rfl, rfl⟩
    go_wp2
    go_ret
    exact ⟨rfl, hB8⟩
  · have hf : f2 = if has ad v then (c : Int) else if 0 ≤ f1 then f1 + 1 else -1 := by have := unhide KEY; rw [if_neg h1] at this; exact this
    have HF := hide hf
    have H1 := hide h1
    clear hf KEY h1
    by_cases h0 : 0 ≤ f1
    · have h2 : (c : Int) ≤ f1 := by have := unhide H1; omega
      clear H1
      go_wp2_with fail
      refine (hasGo_any da dc ad v w10 hdl hd8).mono ?_
      rintro e w' ⟨rfl, rfl⟩
      rename World => w10
      cases hh : has ad v with
      | true =>
        have e : f2 = c := by have := unhide HF; rw [hh, if_pos rfl] at this; exact this
        have HEQ := hide e
        clear e HF hh
        go_wp2_with fail
        refine (answer_any N2 aa ac (ls.length + 1) f2 c pa w10 hlt (unhide ANa) (unhide HEQ) ha8).mono ?_
        rintro e w' ⟨rfl, rfl⟩
        go_wp2
        go_ret
        exact ⟨rfl, hB8⟩
      | false =>
        have e : f2 = f1 + 1 := by have := unhide HF; rw [hh, if_neg (by decide), if_pos h0] at this; exact this
        have HEQ := hide e
        clear e HF hh
        go_wp2_with fail
        refine (answer_any N2 aa ac (ls.length + 1) f2 (f1 + 1) pa w10 hlt (unhide ANa) (unhide HEQ) ha8).mono ?_
        rintro e w' ⟨rfl, rfl⟩
        go_wp2
        go_ret
        exact ⟨rfl, hB8⟩
    · clear H1
      go_wp2_with fail
      refine (hasGo_any da dc ad v w10 hdl hd8).mono ?_
      rintro e w' ⟨rfl, rfl⟩
      rename World => w10
      cases hh : has ad v with
      | true =>
        have e : f2 = c := by have := unhide HF; rw [hh, if_pos rfl] at this; exact this
        have HEQ := hide e
        clear e HF hh
        go_wp2_with fail
        refine (answer_any N2 aa ac (ls.length + 1) f2 c pa w10 hlt (unhide ANa) (unhide HEQ) ha8).mono ?_
        rintro e w' ⟨rfl, rfl⟩
        go_wp2
        go_ret
        exact ⟨rfl, hB8⟩
      | false =>
        have e : f2 = -1 := by have := unhide HF; rw [hh, if_neg (by decide), if_neg (by omega)] at this; exact this
        have HEQ := hide e
        clear e HF hh
        go_wp2_with fail
        refine (answer_any N2 aa ac (ls.length + 1) f2 (-1) pa w10 hlt (unhide ANa) (unhide HEQ) ha8).mono ?_
        rintro e w' ⟨rfl, rfl⟩
        go_wp2
        go_ret
        exact ⟨rfl, hB8⟩
end Go.Proofs.Qxb6614903a
