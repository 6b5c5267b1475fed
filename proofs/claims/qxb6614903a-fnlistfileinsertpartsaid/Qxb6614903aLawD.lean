import Derived.Test.Qxb6614903aTailE
import Derived.Test.Qxb6614903aBytesC
import Derived.Laws.CopyOwn
namespace Go.Proofs.Qxb6614903a
open Go.RowKit

theorem Try.one5 : (Try.prog.info? 5).map (·.size) = some 1 := by kernel_rfl
theorem bytesAt_of_block {w : World} {g : Nat} {l : List Int} {rest : List Value} {t : TypeId} (h : w.heap[g]? = some (.cells (l.map (Value.int .u8) ++ rest).toArray t (0, 0))) : BytesAt w (some ⟨g, 0, none⟩) l := by
  intro k hk
  refine ⟨g, 0, rfl, ?_⟩
  rw [cell_of_row _ g _ _ t (0, 0) h]
  simp [List.getElem?_append_left, hk]

set_option maxRecDepth 100000 in
set_option maxHeartbeats 4000000 in
theorem law4 (ha ao xa : Option Addr) (hc cap xc : Nat) (hs : List Int) (ps : List (List Int)) (kk : Int) (xs : List Int) (w : World) (hhl : hs.length ≤ maxLen) (h1 : BytesAt w ha hs) (hh : ha = none → hc = 0) (hl : ps.length ≤ maxLen) (h : PartsAt w ao ps) (hcap : ps.length ≤ cap) (hnil : ao = none → cap = 0) (hxl : xs.length ≤ maxLen) (hX : BytesAt w xa xs) (hxn : xa = none → xc = 0) :
    Calls Try.prog 4 #[.slice ha hs.length hc, .slice ao ps.length cap, .int .i64 kk, .slice xa xs.length xc] w fun e w' => e = .returned (.bool true) ∧ Below w.heap.size w w' := by
  obtain ⟨i5, hi5, y0, y1, y2⟩ := info_parts Try.info5
  obtain ⟨i22, hi22, z0, z1, z2⟩ := info_parts Try.info22
  have HH := hide hh
  have HNIL := hide hnil
  have HXN := hide hxn
  clear hh hnil hxn
  go_enter Try.func4, Try.ntmps4
  go_wp2_with fail
  refine (bytes17_any ha ao xa hc cap xc hs ps kk xs w hhl hl h hxl).mono ?_
  rintro e w' ⟨⟨r, rfl, hlens⟩, rfl⟩
  rename World => w
  cases r with
  | false =>
    go_wp2
    go_ret
    exact ⟨rfl, Below.refl _ _⟩
  | true =>
  have hS := hlens rfl
  clear hlens
  go_wp2_with fail
  refine (over11_any ha xa ao hc xc cap hs xs ps w hhl hxl hl h).mono ?_
  rintro e w' ⟨⟨r, rfl, -⟩, rfl⟩
  rename World => w
  cases r with
  | true =>
    go_wp2
    go_ret
    exact ⟨rfl, Below.refl _ _⟩
  | false =>
  by_cases hc0 : kk < 0
  · go_wp2
    go_ret
    exact ⟨rfl, Below.refl _ _⟩
  by_cases hc1 : (ps.length : Int) < kk
  · go_wp2
    go_ret
    exact ⟨rfl, Below.refl _ _⟩
  obtain ⟨c, rfl⟩ : ∃ c : Nat, kk = c := ⟨kk.toNat, by omega⟩
  have hcl : c ≤ ps.length := by omega
  have q22 := neq_nil 22 5 Try.underlying22
  have by5 : i5.bytes * hs.length ≤ 281474976710656 := by rw [y2]; omega
  go_upto_if 43 with fail
  go_cut [0, 9] (fun x _ wr => ∃ a c, x = .slice a hs.length c ∧ BytesAt wr a hs ∧ (a = none → c = 0) ∧ Below w.heap.size w wr)
  case first =>
   as_aux_lemma =>
    clear h hX
    cases ha with
    | none =>
      go_wp2
      go_meet
      case rel => exact ⟨none, hc, rfl, h1, fun _ => unhide HH trivial, Below.refl _ _⟩
    | some a =>
      go_wp2_with (first
        | (at_make; refine wpList_make_full _ rfl _ _ 22 rfl w.heap.size 5 i5 _ 1 Try.underlying22 hi5 y0 y1 .i64 .i64 _ _ hs.length rfl rfl rfl rfl by5 (by unfold maxLen; omega) (Nat.le_refl _) ?_; intro v1 hown1 hgr1; obtain ⟨cur, hcur, hcl, hBg⟩ := own_block hown1; have bl1 : Below w.heap.size w v1 := (Below.refl _ _).grown hgr1 (Nat.le_refl _) (by simp); have hsrc := (h1.below bl1).news a rfl; have hcl2 : cur.toList.length = hs.length := (by simpa using hcl))
        | (refine wpList_copy_splice rfl (.tmp 47) (.tmp 48) 22 22 rfl 5 Try.underlying22 Try.one5 _ _ _ _ _ _ rfl rfl w.heap.size 0 cur.toList 5 (by simpa using hcur) (hs.map (Value.int .u8)) (by simp) (fun _ => ⟨rfl, a, rfl, hsrc⟩) (by rw [List.length_map, hcl2]; omega) (u8s_one _) w.heap.size w bl1 (Nat.le_refl _) ?_; intro v2 hg2 hb2))
      go_meet
      case rel => exact ⟨some ⟨w.heap.size, 0, none⟩, _, rfl, bytesAt_of_block (rest := cur.toList.drop hs.length) (by simpa [splice] using Hid.out hg2), by simp, hb2⟩
  rename World => w1
  obtain ⟨a1, c1, rfl, hA, hnA, hb1⟩ := hcut
  have h2 := h.below hb1
  have hX2 := hX.below hb1
  have HNA := hide hnA
  clear h h1 HH hX hnA by5 q22 hi5 y0 y1 y2
  have i1 : (0 : Int) ≤ (c : Int) := by omega
  have i2 : (c : Int) ≤ (ps.length : Int) := by omega
  have i3 : (c : Int) ≤ (cap : Int) := by omega
  obtain ⟨vs, hvs, hva⟩ := h2.vals
  have hvl := hvs.1
  have HVL := hide hvl
  have hsv : PartOf w1 (.slice xa xs.length xc) xs := ⟨xa, xc, rfl, hX2, unhide HXN, hxl⟩
  clear hvl
  have by22 : i22.bytes * (ps.length + 1) ≤ 281474976710656 := by rw [z2]; omega
  have ht : (vs.take c).length = c * 1 := by have := unhide HVL; simp; omega
  have HT := hide ht
  have HVA := hide hva
  have HVS := hide hvs
  clear ht hva hvs
  go_upto_region 12 with (at_make; refine wpList_make_own _ rfl _ _ 23 rfl w1.heap.size 22 i22 _ 1 Try.underlying23 hi22 z0 z1 .i64 .i64 _ (ps.length + 1) rfl rfl (by push_cast; rfl) by22 (by unfold maxLen; omega) (Nat.le_refl _) ?_; intro w2 o2 gr2)
  have hb2 : Below w1.heap.size w1 w2 := (Below.refl _ _).grown gr2 (Nat.le_refl _) (by simp)
  clear gr2
  go_upto_region 13 with (at_builtin; refine wpList_append_fits_any _ rfl (.tmp 55) (.tmp 58) 23 rfl w1.heap.size 22 i22 1 Try.underlying23 hi22 z1 w1.heap.size 0 (ps.length + 1) [] rfl o2 _ c _ (vs.take c) rfl (unhide HT) (fun e => by have := unhide HNIL e; exact ⟨by omega, by omega⟩) (((unhide HVA).below hb2).take c).news ((unhide HVS).take c).one (by omega) ?_; intro w3 o3 gr3)
  have hb3 : Below w1.heap.size w1 w3 := hb2.grown gr3 hb2.size (by intro k e; cases e; exact Nat.le_refl _)
  clear gr3 o2 hb2
  rw [Nat.zero_add, List.nil_append] at o3
  go_upto_region 14 with (at_builtin; refine wpList_append_fits _ rfl (.tmp 60) (.tmp 62) 23 rfl w1.heap.size 22 i22 1 Try.underlying23 hi22 z1 w1.heap.size c (ps.length + 1) (vs.take c) rfl (o3.alloc _) ⟨w3.heap.size, 0, none⟩ 1 1 [.slice xa xs.length xc] rfl rfl (World.news_of_block (heap_alloc_new w3 _)) (one_prt _ _ _) (by omega) ?_; intro w4 o4 gr4)
  have hb4 : Below w1.heap.size w1 w4 := (hb3.alloc hb3.size _).grown gr4 ((hb3.alloc hb3.size _).size) (by intro k e; cases e; exact Nat.le_refl _)
  clear gr4 o3 hb3
  have hvd := ((unhide HVA).below hb4).drop c cap (by rw [unhide HVL]; exact hcap)
  have hSS : PartsOf w1 (vs.take c ++ [.slice xa xs.length xc] ++ vs.drop c) (putp ps c xs) := (((unhide HVS).take c).app (PartsOf.single hsv)).app ((unhide HVS).drop c)
  have HSS := hide hSS
  have hn : (vs.drop c).length = (ps.length - c) * 1 := by rw [← unhide HVL]; simp
  have HN := hide hn
  have he : c + 1 + (ps.length - c) = ps.length + 1 := by omega
  have HE := hide he
  clear hSS hn HVA HT he
  have hone : ∀ u ∈ vs.drop c, u.oneCell' = true := ((unhide HVS).drop c).one
  clear HVS
  go_cut [10] (fun x wr => ∃ g k, x = .slice (some ⟨g, 0, none⟩) (ps.length + 1) k ∧ PartsAt wr (some ⟨g, 0, none⟩) (putp ps c xs) ∧ Below w1.heap.size w1 wr)
  case first =>
   as_aux_lemma =>
    clear h2 hA hX2 hsv
    by_cases hcc : cap = c
    · rw [if_pos hcc] at hvd
      subst hcc
      go_wp2_with (at_builtin; (refine wpList_append_fits_any _ rfl (.tmp 64) (.tmp 67) 23 rfl w1.heap.size 22 i22 1 Try.underlying23 hi22 z1 w1.heap.size (cap + 1) (ps.length + 1) (vs.take cap ++ [.slice xa xs.length xc]) rfl o4 _ 0 _ (vs.drop cap) rfl (by rw [unhide HN]; omega) (fun e => ⟨rfl, rfl⟩) hvd.news hone (by omega) ?_); intro w5 o5 gr5)
      have hb5 : Below w1.heap.size w1 w5 := hb4.grown gr5 hb4.size (by intro k e; cases e; exact Nat.le_refl _)
      go_meet
      case rel => exact ⟨_, _, by rw [show cap + 1 = ps.length + 1 by have := unhide HE; omega], own_parts o5 ((unhide HSS).below hb5), hb5⟩
    · rw [if_neg hcc] at hvd
      go_wp2_with (at_builtin; (refine wpList_append_fits_any _ rfl (.tmp 64) (.tmp 67) 23 rfl w1.heap.size 22 i22 1 Try.underlying23 hi22 z1 w1.heap.size (c + 1) (ps.length + 1) (vs.take c ++ [.slice xa xs.length xc]) rfl o4 _ (ps.length - c) _ (vs.drop c) rfl (unhide HN) (fun e => by have := unhide HNIL (by simpa using e); exact ⟨by omega, by omega⟩) hvd.news hone (by omega) ?_); intro w5 o5 gr5)
      have hb5 : Below w1.heap.size w1 w5 := hb4.grown gr5 hb4.size (by intro k e; cases e; exact Nat.le_refl _)
      go_meet
      case rel => exact ⟨_, _, by rw [unhide HE], own_parts o5 ((unhide HSS).below hb5), hb5⟩
  rename World => w5
  obtain ⟨g, gc, rfl, hP, hb5⟩ := hcut
  have hpl : (putp ps c xs).length = ps.length + 1 := putp_len ps c xs hcl
  have HPL := hide hpl
  have h5 := h2.below hb5
  have hA5 := hA.below hb5
  have hX5 := hX2.below hb5
  have hB5 : Below w.heap.size w w5 := hb1.trans (hb5.mono hb1.size)
  have hszp : hs.length + sz (putp ps c xs) ≤ 2097152 := by
    have e1 := sz_putp hs ps c xs
    rw [sz_cons, sz_cons] at e1
    omega
  have HSZP := hide hszp
  clear hpl h2 hA hX2 hvd o4 hb4 HSS HN HE hone hi22 z0 z1 z2 by22 HVL hsv hb1 hb5 hszp
  go_wp2_with fail
  refine (zzListFile_any a1 ao c1 cap hs ps w5 (by omega) (by omega) hA5 (unhide HNA) h5 (unhide HNIL)).mono ?_
  rintro e w6 ⟨⟨V1, g1, P1, rfl, hv1⟩, hb6⟩
  have h6 := h5.below hb6
  have hA6 := hA5.below hb6
  have hX6 := hX5.below hb6
  have hP6 := hP.below hb6
  have hB6 : Below w.heap.size w w6 := hB5.trans (hb6.mono hB5.size)
  have HV1 := hide hv1
  clear h5 hA5 hX5 hP hB5 hb6 hv1
  go_wp2_with fail
  refine (zzListFile_len a1 (some ⟨g, 0, none⟩) c1 gc hs.length (ps.length + 1) hs (putp ps c xs) w6 rfl (unhide HPL) (by rw [unhide HPL]; omega) (unhide HSZP) hA6 (unhide HNA) hP6 (by simp)).mono ?_
  rintro e w7 ⟨⟨V2, g2, P2, rfl, hv2⟩, hb7⟩
  have h7 := h6.below hb7
  have hA7 := hA6.below hb7
  have hX7 := hX6.below hb7
  have hv17 := (unhide HV1).below hb7
  have hB7 : Below w.heap.size w w7 := hB6.trans (hb7.mono hB6.size)
  clear h6 hA6 hX6 hP6 hB6 hb7 HV1 HSZP HNA HNIL HXN
  obtain ⟨N, hN⟩ : ∃ N, N = 48 + sz (hs :: ps) := ⟨_, rfl⟩
  obtain ⟨N2, hN2⟩ : ∃ N2, N2 = 48 + sz (hs :: putp ps c xs) := ⟨_, rfl⟩
  obtain ⟨M, hM⟩ : ∃ M, M = (putp ps c xs).length := ⟨_, rfl⟩
  have d1 : w7.cell? ⟨V1, 0, none⟩ = some (.slice (some ⟨g1, 0, none⟩) N N) := by rw [hN]; exact hv17.data
  have d2 : w7.cell? ⟨V2, 0, none⟩ = some (.slice (some ⟨g2, 0, none⟩) N2 N2) := by rw [hN2]; exact hv2.data
  have p1 := hv17.parts
  have p2 : w7.cell? ⟨V2, 2, none⟩ = some (.slice (some ⟨P2, 0, none⟩) M M) := by rw [hM]; exact hv2.parts
  have hT1 := hv17.bytes
  have hT2 := hv2.bytes
  have hW1 := hv17.views
  have hW2 := hv2.views
  have e2 : N2 = N + xs.length := by rw [hN2, hN, sz_putp]; omega
  have e3 : M = ps.length + 1 := by rw [hM]; exact unhide HPL
  have E1 := hide hN
  have E2 := hide e2
  have E3 := hide e3
  have j2 : (N2 : Int) = (N : Int) + (xs.length : Int) := by omega
  have j3 : (M : Int) = (ps.length : Int) + 1 := by omega
  have hNb : N ≤ 2097152 := by rw [hN, sz_cons]; omega
  clear hN hN2 hM e2 e3 hv2 hv17 HPL
  go_wp2_with fail
  refine (versionData_any V1 _ w7 d1).mono ?_
  rintro e w' ⟨rfl, rfl⟩
  rename World => w7
  go_wp2_with fail
  refine (versionParts_any V1 _ w7 p1).mono ?_
  rintro e w' ⟨rfl, rfl⟩
  rename World => w7
  go_wp2_with fail
  refine (versionData_any V2 _ w7 d2).mono ?_
  rintro e w' ⟨rfl, rfl⟩
  rename World => w7
  go_wp2_with fail
  refine (versionParts_any V2 _ w7 p2).mono ?_
  rintro e w' ⟨rfl, rfl⟩
  rename World => w7
  clear d1 d2 p1 p2
  go_wp2_with fail
  refine (reads_any g1 P1 a1 ao c1 cap N hs ps w7 (by omega) (by omega) (unhide E1) hA7 h7 hT1 hW1).mono ?_
  rintro e w8 ⟨rfl, hb8⟩
  have h8 := h7.below hb8
  have hX8 := hX7.below hb8
  have hT18 := hT1.below hb8
  have hT28 := hT2.below hb8
  have hW18 := hW1.below hb8
  have hW28 := hW2.below hb8
  have hB8 : Below w.heap.size w w8 := hB7.trans (hb8.mono hB7.size)
  clear h7 hA7 hX7 hT1 hT2 hW1 hW2 hB7 hb8
  go_wp2_with fail
  go_loop [17, 18] (fun t i => ∃ (q n : Nat), q ≤ c ∧ i = .int .i64 q ∧ t = .int .i64 n ∧ n = 44 + hs.length + tot ps q) (fun _ i => c - (intOf i).toNat)
  case atStart => exact ⟨0, 44 + hs.length, Nat.zero_le _, rfl, by go_num, by rw [tot_zero]; rfl⟩
  case round =>
    obtain ⟨q, n, hq, rfl, rfl, hn⟩ := hrel
    have HN := hide hn
    have hn2 : n ≤ 44 + hs.length + sz ps := by have := tot_le ps q; omega
    clear hn
    by_cases hlt : q < c
    · have hqp : q < ps.length := by omega
      obtain ⟨b, off, a, cc, rfl, d1, -, -, -⟩ := h8 q hqp
      have hpk := part_le ps q hqp
      have hlk : ps[q].length ≤ 1048576 := by omega
      clear hpk h8 hX8 hT18 hT28 hW18 hW28 hB8
      go_wp2
      go_round
      case rel => exact ⟨q + 1, n + ps[q].length, hlt, by go_num, by go_num, by rw [tot_succ ps q hqp, unhide HN]; omega⟩
      case measure => simp [intOf]; omega
    · have e : q = c := by omega
      subst e
      clear h8
      go_upto_region 32 with (go_at_K; apply_assumption; exact tailE q g1 g2 P1 P2 N N2 M n xc xa hs xs ps _ _ _ _ _ _ _ _ _ _ _ _ _ _ _ _ _ _ _ _ _ _ _ _ _ _ _ _ _ _ _ _ _ _ _ _ _ _ _ _ _ _ _ _ _ _ _ _ _ _ _ _ _ _ _ _ _ _ _ _ _ _ _ _ _ _ _ _ _ _ _ _ _ _ _ _ _ _ _ _ _ _ _ _ _ _ _ _ _ _ _ _ _ _ _ _ _ _ _ _ _ _ _ _ _ _ _ _ _ _ _ _ _ _ _ _ _ _ _ _ _ _ _ _ _ _ _ _ _ _ _ _ _ _ _ _ _ _ _ _ _ _ _ _ _ _ _ _ _ _ _ _ _ _ _ _ _ _ _ _ _ _ _ _ _ _ _ _ _ _ _ _ _ _ _ _ _ _ _ _ _ _ _ _ _ _ _ _ _ _ _ _ _ _ _ _ _ _ _ _ _ _ _ _ _ _ _ _ _ _ _ _ _ _ _ _ _ _ _ _ _ _ _ w8 w hcl (by omega) (by omega) (by omega) (by omega) (unhide E1) (unhide E2) (unhide E3) (unhide HN) hX8 hT18 hT28 hW18 hW28 hB8)
end Go.Proofs.Qxb6614903a
