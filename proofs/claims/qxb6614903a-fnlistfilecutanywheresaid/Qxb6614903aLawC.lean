import Derived.Test.Qxb6614903aReads
import Derived.Laws.CopyOwn
import Derived.Deep.CutBlock
import Derived.Deep.DeepCutAuto
namespace Go.Proofs.Qxb6614903a
open Go.RowKit

theorem Try.one5 : (Try.prog.info? 5).map (·.size) = some 1 := by kernel_rfl
theorem bytesAt_of_block {w : World} {g : Nat} {l : List Int} {rest : List Value} {t : TypeId} (h : w.heap[g]? = some (.cells (l.map (Value.int .u8) ++ rest).toArray t (0, 0))) : BytesAt w (some ⟨g, 0, none⟩) l := by
  intro k hk
  refine ⟨g, 0, rfl, ?_⟩
  rw [cell_of_row _ g _ _ t (0, 0) h]
  simp [List.getElem?_append_left, hk]
theorem PartsAt.drop {w : World} {ao : Option Addr} {ls : List (List Int)} (h : PartsAt w ao ls) (c cap : Nat) (hc : ls.length ≤ cap) : PartsAt w (if cap = c then ao else ao.map (fun x => x.add c)) (ls.drop c) := by
  intro k hk
  have hk' : c + k < ls.length := by simp at hk; omega
  obtain ⟨b, off, a, cc, h1, h2, h3, h4⟩ := h (c + k) hk'
  have e : (ls.drop c)[k] = ls[c + k] := by simp
  rw [if_neg (by omega), e]
  refine ⟨b, off + c, a, cc, by simp [h1, Addr.add], ?_, h3, h4⟩
  rw [Nat.add_assoc]; exact h2
theorem text_cut (hs : List Int) (ps : List (List Int)) (k : Nat) : text ((hs ++ (ps.take k).flatten) :: ps.drop k) = text (hs :: ps) := by
  rw [text_head, text_head, flat_split ps k]
  simp only [List.append_assoc]
theorem sz_cut (hs : List Int) (ps : List (List Int)) (k : Nat) : sz ((hs ++ (ps.take k).flatten) :: ps.drop k) = sz (hs :: ps) := by
  have h1 := text_len ((hs ++ (ps.take k).flatten) :: ps.drop k)
  have h2 := text_len (hs :: ps)
  rw [text_cut] at h1
  omega
theorem tot_mono (ps : List (List Int)) (i j : Nat) (h : i ≤ j) : tot ps i ≤ tot ps j := by
  have e : (ps.take j).take i = ps.take i := by rw [List.take_take, Nat.min_eq_left h]
  have := tot_le (ps.take j) i
  unfold tot at this ⊢
  rw [e] at this
  exact this
theorem reads_len (g P : Nat) (ha ao : Option Addr) (hc cap N n m m' : Nat) (hs : List Int) (ps : List (List Int)) (w : World) (hn : hs.length = n) (hm : ps.length = m) (hm' : ps.length = m') (hl : ps.length ≤ 2097152) (hsz : hs.length + sz ps ≤ 2097152) (hN : N = 48 + sz (hs :: ps)) (h1 : BytesAt w ha hs) (h : PartsAt w ao ps)
    (hd : BytesAt w (some ⟨g, 0, none⟩) (text (hs :: ps))) (hv : Views w P g (44 + hs.length) ps) :
    Calls Try.prog 15 #[.slice (some ⟨g, 0, none⟩) N N, .slice (some ⟨P, 0, none⟩) m m, .slice ha n hc, .slice ao m' cap] w fun e w' => e = .returned (.bool true) ∧ Below w.heap.size w w' := by
  subst hn; subst hm; subst hm'
  exact reads_any g P ha ao hc cap N hs ps w hl hsz hN h1 h hd hv
/-- The head and the first k parts. -/
def hd2 (hs : List Int) (ps : List (List Int)) (k : Nat) : List Int := hs ++ (ps.take k).flatten
theorem hd2_zero (hs : List Int) (ps : List (List Int)) : hd2 hs ps 0 = hs := by unfold hd2; rw [List.take_zero, List.flatten_nil, List.append_nil]
theorem hd2_succ (hs : List Int) (ps : List (List Int)) (k : Nat) (hk : k < ps.length) : hd2 hs ps (k + 1) = hd2 hs ps k ++ ps[k] := by
  unfold hd2
  rw [List.take_succ_eq_append_getElem hk]
  simp only [List.flatten_append, List.flatten_cons, List.flatten_nil, List.append_nil, List.append_assoc]
theorem hd2_len (hs : List Int) (ps : List (List Int)) (k : Nat) : (hd2 hs ps k).length = hs.length + tot ps k := by
  unfold hd2 tot
  rw [List.length_append]

set_option maxRecDepth 100000 in
set_option maxHeartbeats 4000000 in
theorem law3 (ha ao : Option Addr) (hc cap : Nat) (hs : List Int) (ps : List (List Int)) (kk : Int) (w : World) (hhl : hs.length ≤ maxLen) (h1 : BytesAt w ha hs) (hh : ha = none → hc = 0) (hl : ps.length ≤ maxLen) (h : PartsAt w ao ps) (hcap : ps.length ≤ cap) (hnil : ao = none → cap = 0) :
    Calls Try.prog 3 #[.slice ha hs.length hc, .slice ao ps.length cap, .int .i64 kk] w fun e w' => e = .returned (.bool true) ∧ Below w.heap.size w w' := by
  obtain ⟨i5, hi5, y0, y1, y2⟩ := info_parts Try.info5
  have HH := hide hh
  have HNIL := hide hnil
  clear hh hnil
  go_enter Try.func3, Try.ntmps3
  go_wp2_with fail
  refine (bytes10_any ha ao hc cap hs ps kk w hhl hl h).mono ?_
  rintro e w' ⟨⟨r, rfl, hlens⟩, rfl⟩
  rename World => w
  cases r with
  | false =>
    go_wp2
    go_ret
    exact ⟨rfl, Below.refl _ _⟩
  | true =>
  have hS := hlens rfl
  clear hlens
  go_wp2_with fail
  refine (over11_any ha none ao hc 0 cap hs [] ps w hhl (Nat.zero_le _) hl h).mono ?_
  rintro e w' ⟨⟨r, rfl, -⟩, rfl⟩
  rename World => w
  cases r with
  | true =>
    go_wp2
    go_ret
    exact ⟨rfl, Below.refl _ _⟩
  | false =>
  by_cases hc0 : kk < 0
  · go_wp2
    go_ret
    exact ⟨rfl, Below.refl _ _⟩
  by_cases hc1 : (ps.length : Int) < kk
  · go_wp2
    go_ret
    exact ⟨rfl, Below.refl _ _⟩
  obtain ⟨k, rfl⟩ : ∃ k : Nat, kk = k := ⟨kk.toNat, by omega⟩
  have hkl : k ≤ ps.length := by omega
  have q22 := neq_nil 22 5 Try.underlying22
  have by5 : i5.bytes * hs.length ≤ 281474976710656 := by rw [y2]; omega
  go_upto_if 36 with fail
  go_cut [0, 7] (fun x _ wr => ∃ a c, x = .slice a hs.length c ∧ BytesAt wr a hs ∧ (a = none → c = 0) ∧ Below w.heap.size w wr)
  case first =>
    clear h
    cases ha with
    | none =>
      go_wp2
      go_meet
      case rel => exact ⟨none, hc, rfl, h1, fun _ => unhide HH trivial, Below.refl _ _⟩
    | some a =>
      go_wp2_with (first
        | (at_make; refine wpList_make_full _ rfl _ _ 22 rfl w.heap.size 5 i5 _ 1 Try.underlying22 hi5 y0 y1 .i64 .i64 _ _ hs.length rfl rfl rfl rfl by5 (by unfold maxLen; omega) (Nat.le_refl _) ?_; intro v1 hown1 hgr1; obtain ⟨cur, hcur, hcl, hBg⟩ := own_block hown1; have bl1 : Below w.heap.size w v1 := (Below.refl _ _).grown hgr1 (Nat.le_refl _) (by simp); have hsrc := (h1.below bl1).news a rfl; have hcl2 : cur.toList.length = hs.length := (by simpa using hcl))
        | (refine wpList_copy_splice rfl (.tmp 40) (.tmp 41) 22 22 rfl 5 Try.underlying22 Try.one5 _ _ _ _ _ _ rfl rfl w.heap.size 0 cur.toList 5 (by simpa using hcur) (hs.map (Value.int .u8)) (by simp) (fun _ => ⟨rfl, a, rfl, hsrc⟩) (by rw [List.length_map, hcl2]; omega) (u8s_one _) w.heap.size w bl1 (Nat.le_refl _) ?_; intro v2 hg2 hb2))
      go_meet
      case rel => exact ⟨some ⟨w.heap.size, 0, none⟩, _, rfl, bytesAt_of_block (rest := cur.toList.drop hs.length) (by simpa [splice] using Hid.out hg2), by simp, hb2⟩
  rename World => w1
  obtain ⟨a1, c1, rfl, hA, hnA, hb1⟩ := hcut
  have h2 := h.below hb1
  clear h h1 HH
  have HNA := hide hnA
  clear hnA by5 q22
  go_wp2_with fail
  go_loop [8, 9] (fun t i => ∃ (q n : Nat), q ≤ k ∧ i = .int .i64 q ∧ t = .int .i64 n ∧ n = hs.length + tot ps q) (fun _ i => k - (intOf i).toNat)
  case atStart => exact ⟨0, hs.length, Nat.zero_le _, rfl, rfl, by rw [tot_zero]; rfl⟩
  case round =>
    obtain ⟨q, n, hq, rfl, rfl, hn⟩ := hrel
    have HN := hide hn
    have hn2 : n ≤ hs.length + sz ps := by have := tot_le ps q; omega
    clear hn
    by_cases hlt : q < k
    · have hqp : q < ps.length := by omega
      obtain ⟨b, off, a, c, rfl, d1, -, -, -⟩ := h2 q hqp
      have hpk := part_le ps q hqp
      have hlk : ps[q].length ≤ 1048576 := by omega
      clear hpk h2 hA
      go_wp2
      go_round
      case rel => exact ⟨q + 1, n + ps[q].length, hlt, by go_num, by go_num, by rw [tot_succ ps q hqp, unhide HN]; omega⟩
      case measure => simp [intOf]; omega
    · have e : q = k := by omega
      subst e
      have by5 : i5.bytes * n ≤ 281474976710656 := by rw [y2]; omega
      have hhn : hs.length ≤ n := by have := unhide HN; omega
      have hnews := fun wx (hx : Below w1.heap.size w1 wx) => (hA.below hx).news
      have hnone : a1 = none → hs.length = 0 ∧ c1 = 0 := fun e => ⟨hA.none_len e, unhide HNA e⟩
      have HNW := hide hnews
      have HNO := hide hnone
      clear hnews hnone
      go_upto_region 17 with (at_make; refine wpList_make_own _ rfl _ _ 22 rfl w1.heap.size 5 i5 _ 1 Try.underlying22 hi5 y0 y1 .i64 .i64 _ n rfl rfl rfl by5 (by unfold maxLen; omega) (Nat.le_refl _) ?_; intro w2 o2 gr2)
      have hb2 : Below w1.heap.size w1 w2 := (Below.refl _ _).grown gr2 (Nat.le_refl _) (by simp)
      clear gr2
      go_upto_region 18 with (at_builtin; refine wpList_append_fits_any _ rfl (.tmp 60) (.tmp 61) 22 rfl w1.heap.size 5 i5 1 Try.underlying22 hi5 y1 w1.heap.size 0 n [] rfl o2 a1 hs.length c1 (hs.map (Value.int .u8)) rfl (by rw [List.length_map, Nat.mul_one]) (unhide HNO) (unhide HNW w2 hb2) (u8s_one _) (by omega) ?_; intro w3 o3 gr3)
      have hb3 : Below w1.heap.size w1 w3 := hb2.grown gr3 hb2.size (by intro k e; cases e; exact Nat.le_refl _)
      have o4 : w3.ownsRow w1.heap.size 5 1 (.slice (some ⟨w1.heap.size, 0, none⟩) hs.length n) hs.length ((hd2 hs ps 0).map (Value.int .u8)) := by
        rw [hd2_zero]
        rw [Nat.zero_add, List.nil_append] at o3
        exact o3
      clear gr3 o2 o3 hb2 HNW HNO by5
      go_wp2_with fail
      go_loopw [10, 11] (fun v i wr => ∃ (p m : Nat), p ≤ q ∧ i = .int .i64 p ∧ v = .slice (some ⟨w1.heap.size, 0, none⟩) m n ∧ m = hs.length + tot ps p ∧ wr.ownsRow w1.heap.size 5 1 (.slice (some ⟨w1.heap.size, 0, none⟩) m n) m ((hd2 hs ps p).map (Value.int .u8)) ∧ Below w1.heap.size w1 wr) (fun _ i _ => q - (intOf i).toNat)
      case atStart => exact ⟨0, hs.length, Nat.zero_le _, rfl, rfl, by rw [tot_zero]; rfl, o4, hb3⟩
      case round =>
        clear o4 hb3
        rename World => wr
        obtain ⟨p, m, hp, rfl, rfl, hm, own, hb⟩ := hrel
        have HM := hide hm
        clear hm
        by_cases hpt : p < q
        · have hpp : p < ps.length := by omega
          obtain ⟨b, off, a, c, rfl, d1, hbs, hnc, -⟩ := h2.below hb p hpp
          have hfit : m + ps[p].length ≤ n := by
            have e1 := unhide HM
            have e2 := unhide HN
            have e3 := tot_succ ps p hpp
            have e4 : tot ps (p + 1) ≤ tot ps q := tot_mono ps _ _ (by omega)
            omega
          have HOWN := hide own
          clear own h2 hA
          go_wp2_with (at_builtin; refine wpList_append_fits_any _ rfl (.tmp 68) (.tmp 72) 22 rfl w1.heap.size 5 i5 1 Try.underlying22 hi5 y1 w1.heap.size m n _ rfl (unhide HOWN) a ps[p].length c (ps[p].map (Value.int .u8)) rfl (by rw [List.length_map, Nat.mul_one]) (fun e => ⟨hbs.none_len e, hnc e⟩) hbs.news (u8s_one _) hfit ?_; intro w3 o3 gr3)
          go_roundw
          case rel => exact ⟨p + 1, m + ps[p].length, hpt, by go_num, rfl, by rw [tot_succ ps p hpp, unhide HM]; omega, by rw [hd2_succ hs ps p hpp, List.map_append]; exact o3, hb.grown gr3 hb.size (by intro k e; cases e; exact Nat.le_refl _)⟩
          case measure => simp [intOf]; omega
        · have e : p = q := by omega
          subst e
          have hmn : m = n := by have e1 := unhide HM; have e2 := unhide HN; omega
          subst hmn
          have hH : BytesAt wr (some ⟨w1.heap.size, 0, none⟩) (hd2 hs ps p) := own_bytes own
          have hB : Below w.heap.size w wr := hb1.trans (hb.mono hb1.size)
          have h3 := h2.below hb
          have hA3 := hA.below hb
          clear own h2 hA hb hb1
          generalize w1.heap.size = G at hH ⊢
          go_wp2_with fail
          refine (zzListFile_any a1 ao c1 cap hs ps wr (by omega) (by omega) hA3 (unhide HNA) h3 (unhide HNIL)).mono ?_
          rintro e w4 ⟨⟨V1, g1, P1, rfl, hv1⟩, hb4⟩
          have h4 := h3.below hb4
          have hA4 := hA3.below hb4
          have hH4 := hH.below hb4
          have hB4 : Below w.heap.size w w4 := hB.trans (hb4.mono hB.size)
          clear h3 hA3 hH hB hb4 HNA hi5 y0 y1 y2
          have hdl : (ps.drop p).length = ps.length - p := by simp
          have HDL := hide hdl
          have hhl2 : (hd2 hs ps p).length = m := by rw [hd2_len]; exact (unhide HM).symm
          have HHL := hide hhl2
          have hsz2 : (hd2 hs ps p).length + sz (ps.drop p) ≤ 2097152 := by
            have e1 := sz_cut hs ps p
            have e2 := sz_cons hs ps
            have e3 := sz_cons (hd2 hs ps p) (ps.drop p)
            unfold hd2 at e3 ⊢
            omega
          have HSZ := hide hsz2
          clear hdl hhl2 hsz2
          have i1 : (0 : Int) ≤ (p : Int) := by omega
          have i2 : (p : Int) ≤ (ps.length : Int) := by omega
          have i3 : (p : Int) ≤ (cap : Int) := by omega
          go_upto_region 23 with fail
          go_cut [13] (fun x wx => ∃ V2 g2 P2, x = .pointer (some ⟨V2, 0, none⟩) ∧ Vers wx V2 g2 P2 (hd2 hs ps p) (ps.drop p) ∧ Below w4.heap.size w4 wx)
          case first =>
            have hd := h4.drop p cap hcap
            by_cases hcc : cap = p
            · subst hcc
              rw [if_pos rfl] at hd
              clear h4 hA4 hv1 hB4
              go_wp2_with fail
              refine (zzListFile_len (some ⟨G, 0, none⟩) ao m 0 m 0 (hd2 hs ps cap) (ps.drop cap) w4 (unhide HHL) (by rw [unhide HDL]; omega) (by rw [unhide HDL]; omega) (unhide HSZ) hH4 (by simp) hd (fun _ => rfl)).mono ?_
              rintro e w5 ⟨⟨V2, g2, P2, rfl, hv2⟩, hb5⟩
              go_wp2
              go_meet
              case rel => exact ⟨V2, g2, P2, rfl, hv2, hb5⟩
            · rw [if_neg hcc] at hd
              clear h4 hA4 hv1 hB4
              go_wp2_with fail
              refine (zzListFile_len (some ⟨G, 0, none⟩) _ m (cap - p) m (ps.length - p) (hd2 hs ps p) (ps.drop p) w4 (unhide HHL) (unhide HDL) (by rw [unhide HDL]; omega) (unhide HSZ) hH4 (by simp) hd (fun e => by have := unhide HNIL (by simpa using e); omega)).mono ?_
              rintro e w5 ⟨⟨V2, g2, P2, rfl, hv2⟩, hb5⟩
              go_wp2
              go_meet
              case rel => exact ⟨V2, g2, P2, rfl, hv2, hb5⟩
          rename World => w5
          obtain ⟨V2, g2, P2, rfl, hv2, hb5⟩ := hcut
          have h5 := h4.below hb5
          have hA5 := hA4.below hb5
          have hH5 := hH4.below hb5
          have hv15 := hv1.below hb5
          have hB5 : Below w.heap.size w w5 := hB4.trans (hb5.mono hB4.size)
          clear h4 hA4 hH4 hv1 hB4 hb5 HSZ
          obtain ⟨N, hN⟩ : ∃ N, N = 48 + sz (hs :: ps) := ⟨_, rfl⟩
          have hN' : N = 48 + sz (hd2 hs ps p :: ps.drop p) := by rw [hN, ← sz_cut hs ps p]; rfl
          have d1 : w5.cell? ⟨V1, 0, none⟩ = some (.slice (some ⟨g1, 0, none⟩) N N) := by rw [hN]; exact hv15.data
          have d2 : w5.cell? ⟨V2, 0, none⟩ = some (.slice (some ⟨g2, 0, none⟩) N N) := by rw [hN']; exact hv2.data
          have p1 := hv15.parts
          obtain ⟨L, hL⟩ : ∃ L, L = ps.length - p := ⟨_, rfl⟩
          have hdL : (ps.drop p).length = L := by rw [hL]; exact unhide HDL
          have HDLL := hide hdL
          have hL1 : p + L ≤ ps.length := by omega
          have hL2 : ps.length ≤ p + L := by omega
          have p2 : w5.cell? ⟨V2, 2, none⟩ = some (.slice (some ⟨P2, 0, none⟩) L L) := by rw [← unhide HDLL]; exact hv2.parts
          clear hL hdL
          have hT1 := hv15.bytes
          have hT2 := hv2.bytes
          have hW1 := hv15.views
          have hW2 := hv2.views
          have HN1 := hide hN
          have HN2 := hide hN'
          have hNb : N ≤ 2097152 := by rw [hN, sz_cons]; omega
          clear hN hN' hv2 hv15
          go_wp2_with fail
          refine (versionData_any V1 _ w5 d1).mono ?_
          rintro e w' ⟨rfl, rfl⟩
          rename World => w5
          go_wp2_with fail
          refine (versionParts_any V1 _ w5 p1).mono ?_
          rintro e w' ⟨rfl, rfl⟩
          rename World => w5
          go_wp2_with fail
          refine (versionData_any V2 _ w5 d2).mono ?_
          rintro e w' ⟨rfl, rfl⟩
          rename World => w5
          go_wp2_with fail
          refine (versionParts_any V2 _ w5 p2).mono ?_
          rintro e w' ⟨rfl, rfl⟩
          rename World => w5
          clear d1 d2 p1 p2
          go_upto_region 30 with fail
          go_cut [111] (fun x wx => x = .bool false ∧ Below w5.heap.size w5 wx)
          case first =>
            go_wp2_with fail
            refine (reads_any g1 P1 a1 ao c1 cap N hs ps w5 (by omega) (by omega) (unhide HN1) hA5 h5 hT1 hW1).mono ?_
            rintro e w6 ⟨rfl, hb6⟩
            have hd := (h5.below hb6).drop p cap hcap
            have hH6 := hH5.below hb6
            have hT26 := hT2.below hb6
            have hW26 := hW2.below hb6
            clear h5 hH5 hT1 hT2 hW1 hW2 hB5 hA5
            have hsz3 : (hd2 hs ps p).length + sz (ps.drop p) ≤ 2097152 := by have := unhide HN2; rw [sz_cons] at this; omega
            have HSZ3 := hide hsz3
            clear hsz3
            by_cases hcc : cap = p
            · subst hcc
              rw [if_pos rfl] at hd
              go_wp2_with fail
              refine (reads_len g2 P2 (some ⟨G, 0, none⟩) ao m 0 N m L 0 (hd2 hs ps cap) (ps.drop cap) w6 (unhide HHL) (unhide HDLL) (by rw [unhide HDL]; omega) (by rw [unhide HDL]; omega) (unhide HSZ3) (unhide HN2) hH6 hd hT26 hW26).mono ?_
              rintro e w7 ⟨rfl, hb7⟩
              go_wp2
              go_meet
              case rel => exact ⟨rfl, hb6.trans (hb7.mono hb6.size)⟩
            · rw [if_neg hcc] at hd
              go_wp2_with fail
              refine (reads_len g2 P2 (some ⟨G, 0, none⟩) _ m (cap - p) N m L (ps.length - p) (hd2 hs ps p) (ps.drop p) w6 (unhide HHL) (unhide HDLL) (unhide HDL) (by rw [unhide HDL]; omega) (unhide HSZ3) (unhide HN2) hH6 hd hT26 hW26).mono ?_
              rintro e w7 ⟨rfl, hb7⟩
              go_wp2
              go_meet
              case rel => exact ⟨rfl, hb6.trans (hb7.mono hb6.size)⟩
          rename World => w6
          obtain ⟨rfl, hb6⟩ := hcut
          have hT16 := hT1.below hb6
          have hT26 := hT2.below hb6
          have hW16 := hW1.below hb6
          have hW26 := hW2.below hb6
          have hB6 : Below w.heap.size w w6 := hB5.trans (hb6.mono hB5.size)
          clear h5 hH5 hT1 hT2 hW1 hW2 hB5 hb6 hA5 HNIL HHL
          have hlen : (text (hs :: ps)).length = N := by rw [text_len]; exact (unhide HN1).symm
          have HLEN := hide hlen
          have hT26' : BytesAt w6 (some ⟨g2, 0, none⟩) (text (hs :: ps)) := by rw [← text_cut hs ps p]; exact hT26
          clear hlen
          go_wp2_with fail
          refine (sameBytes_len (some ⟨g1, 0, none⟩) (some ⟨g2, 0, none⟩) N N N N (text (hs :: ps)) w6 (unhide HLEN) (unhide HLEN) (by rw [unhide HLEN]; unfold maxLen; omega) hT16 hT26').mono ?_
          rintro e w7 ⟨rfl, hb7⟩
          replace hT16 := hT16.below hb7
          replace hT26 := hT26.below hb7
          replace hW16 := hW16.below hb7
          replace hW26 := hW26.below hb7
          replace hB6 := hB6.trans (hb7.mono hB6.size)
          clear hb7 hT26' HLEN
          go_wp2_with fail
          go_loopw [18] (fun i wr => ∃ (j : Nat), j ≤ L ∧ i = .int .i64 j ∧ Below w7.heap.size w7 wr) (fun i _ => L - (intOf i).toNat)
          case atStart => exact ⟨0, Nat.zero_le _, rfl, Below.refl _ _⟩
          case round =>
            rename World => wx
            obtain ⟨j, hj, rfl, hb⟩ := hrel
            by_cases hjt : j < L
            · have hjd : j < (ps.drop p).length := by rw [unhide HDLL]; exact hjt
              have hpj : p + j < ps.length := by omega
              have he : (ps.drop p)[j] = ps[p + j] := by simp
              have hbd : Below w7.heap.size w7 wx.drew := hb.drew
              obtain ⟨q2, x2, y2⟩ := hW26.below hbd j hjd
              obtain ⟨q1, x1, y1⟩ := hW16.below hbd (p + j) hpj
              have t2 := view_at (hT26.below hbd) j hjd rfl y2
              have t1 := view_at (hT16.below hbd) (p + j) hpj rfl y1
              rw [he] at x2 t2
              have hpk := part_le ps (p + j) hpj
              have hlk : ps[p + j].length ≤ 2097152 := by omega
              have k1 : (j : Int) < (L : Int) := by omega
              have k2 : (0 : Int) ≤ (j : Int) := by omega
              obtain ⟨s, hse⟩ : ∃ s, s = p + j := ⟨_, rfl⟩
              have hwr : IntKind.i64.wrap ((p : Int) + (j : Int)) = (s : Int) := by rw [IntKind.wrap_i64]; omega
              have k3 : (s : Int) < (ps.length : Int) := by omega
              have k4 : (0 : Int) ≤ (s : Int) := by omega
              obtain ⟨l, hle⟩ : ∃ l, l = ps[p + j].length := ⟨_, rfl⟩
              have HLE := hide hle
              rw [← hle] at x1 x2 hlk
              rw [← hse] at x1
              clear hse hle
              clear hpk hW16 hW26 hT16 hT26 y1 y2 he
              go_wp2_with fail
              go_region_held3 (fun w' => w'.cell? ⟨P2, j, none⟩ = some (.slice (some ⟨g2, q2, none⟩) l l) ∧ w'.cell? ⟨P1, s, none⟩ = some (.slice (some ⟨g1, q1, none⟩) l l)) (first | exact ⟨x2, x1⟩ | exact ⟨cell_keep x2 hb7, cell_keep x1 hb7⟩)
                (first
                  | (go_at_call 16; refine (sameBytes_len _ _ _ _ l l ps[p + j] wx.drew (unhide HLE).symm (unhide HLE).symm (by rw [← unhide HLE]; unfold maxLen; omega) t2 t1).mono ?_; rintro e w8 ⟨rfl, hb7⟩))
              have hb8 : Below w7.heap.size w7 w8 := hbd.trans (hb7.mono hbd.size)
              clear x1 x2 t1 t2 hb hbd hb7
              go_wp2
              go_roundw
              case rel => exact ⟨j + 1, hjt, by go_num, hb8⟩
              case measure => simp [intOf]; omega
            · clear hW16 hW26 hT16 hT26
              go_wp2
              go_ret
              exact ⟨rfl, hB6.trans (hb.mono hB6.size)⟩
end Go.Proofs.Qxb6614903a
