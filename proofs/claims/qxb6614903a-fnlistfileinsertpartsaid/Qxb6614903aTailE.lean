import Derived.Test.Qxb6614903aTailF
import Derived.Deep.CutBlock
import Derived.Deep.DeepCutAuto
namespace Go.Proofs.Qxb6614903a
open Go.RowKit

set_option maxRecDepth 100000 in
set_option maxHeartbeats 4000000 in
theorem tailE (c g1 g2 P1 P2 N N2 M O xc : Nat) (xa : Option Addr) (hs xs : List Int) (ps : List (List Int))
    (u0 u1 u4 u5 u6 u7 u8 u9 u10 u11 u12 u18 u19 u20 u21 u22 u23 u24 u25 u26 u27 u28 u29 u30 u31 u32 u33 u34 u35 u36 u37 u38 u39 u40 u41 u42 u43 u44 u45 u46 u47 u48 u49 u50 u51 u52 u53 u54 u55 u56 u57 u58 u59 u60 u61 u62 u63 u64 u65 u66 u67 u68 u69 u70 u71 u72 u73 u74 u75 u76 u77 u78 u79 u80 u81 u82 u83 u84 u85 u86 u87 u88 u89 u90 u91 u92 u93 u94 u95 u96 u97 u98 u99 u100 u101 u102 u103 u104 u105 u106 u107 u108 u109 u110 u111 u112 u113 u114 u115 u116 u117 u118 u119 u120 u121 u122 u123 u124 u125 u126 u127 u128 u129 u130 u131 u132 u133 u134 u135 u136 u137 u138 u139 u140 u141 u142 u143 u144 u145 u146 u147 u148 u149 u150 u151 u152 u153 u154 u155 u156 u157 u158 u159 u160 u161 u162 u163 u164 u165 u166 u167 u168 u169 u170 u171 u172 u173 u174 u175 u176 u177 u178 u179 u180 u181 u182 u183 u184 u185 u186 u187 u188 u189 u190 u191 u192 u193 u194 u195 u196 u197 u198 u199 u200 u201 u202 u203 u204 u205 u206 u207 u208 u209 u210 u211 u212 u213 u214 u215 u216 u217 u218 u219 u220 u221 u222 u223 u224 u225 u226 u227 u228 u229 : Value) (w wB : World)
    (hc : c ≤ ps.length) (hl : ps.length ≤ 1048576) (hhl : hs.length ≤ 1048576) (hxl : xs.length ≤ 1048576) (hps : sz ps ≤ 1048576)
    (hN : N = 48 + sz (hs :: ps)) (hN2 : N2 = N + xs.length) (hM : M = ps.length + 1) (hO : O = 44 + hs.length + tot ps c) (hX : BytesAt w xa xs)
    (hT1 : BytesAt w (some ⟨g1, 0, none⟩) (text (hs :: ps))) (hT2 : BytesAt w (some ⟨g2, 0, none⟩) (text (hs :: putp ps c xs))) (hW1 : Views w P1 g1 (44 + hs.length) ps) (hW2 : Views w P2 g2 (44 + hs.length) (putp ps c xs)) (hB : Below wB.heap.size wB w) :
    Code.wp Try.prog (seqDrop 20 (Try.f4.body.getD .skip)) (bodyPost Try.prog Try.f4 fun e w' => e = .returned (.bool true) ∧ Below wB.heap.size wB w') ⟨#[u0, u1, .int .i64 c, .slice xa xs.length xc, u4, u5, u6, u7, u8, u9, u10, u11, u12, .slice (some ⟨g1, 0, none⟩) N N, .slice (some ⟨P1, 0, none⟩) ps.length ps.length, .slice (some ⟨g2, 0, none⟩) N2 N2, .slice (some ⟨P2, 0, none⟩) M M, .int .i64 O, u18, u19, u20, u21, u22, u23, u24, u25, u26, u27, u28, u29, u30, u31, u32, u33, u34, u35, u36, u37, u38, u39, u40, u41, u42, u43, u44, u45, u46, u47, u48, u49, u50, u51, u52, u53, u54, u55, u56, u57, u58, u59, u60, u61, u62, u63, u64, u65, u66, u67, u68, u69, u70, u71, u72, u73, u74, u75, u76, u77, u78, u79, u80, u81, u82, u83, u84, u85, u86, u87, u88, u89, u90, u91, u92, u93, u94, u95, u96, u97, u98, u99, u100, u101, u102, u103, u104, u105, u106, u107, u108, u109, u110, u111, u112, u113, u114, u115, u116, u117, u118, u119, u120, u121, u122, u123, u124, u125, u126, u127, u128, u129, u130, u131, u132, u133, u134, u135, u136, u137, u138, u139, u140, u141, u142, u143, u144, u145, u146, u147, u148, u149, u150, u151, u152, u153, u154, u155, u156, u157, u158, u159, u160, u161, u162, u163, u164, u165, u166, u167, u168, u169, u170, u171, u172, u173, u174, u175, u176, u177, u178, u179, u180, u181, u182, u183, u184, u185, u186, u187, u188, u189, u190, u191, u192, u193, u194, u195, u196, u197, u198, u199, u200, u201, u202, u203, u204, u205, u206, u207, u208, u209, u210, u211, u212, u213, u214, u215, u216, u217, u218, u219, u220, u221, u222, u223, u224, u225, u226, u227, u228, u229], []⟩ w := by
  have HEND : Hid (∀ wr, Below w.heap.size w wr → N = 48 + sz (hs :: ps) ∧ N2 = N + xs.length ∧ M = ps.length + 1 ∧ O = 44 + hs.length + tot ps c) := hide fun _ _ => ⟨hN, hN2, hM, hO⟩
  conv => arg 2; whnf
  have hO1 : O ≤ 44 + hs.length + sz ps := by have := tot_le ps c; omega
  have hNa : 48 + hs.length + sz ps ≤ N := by rw [hN, sz_cons]; omega
  have hNb : N ≤ 48 + hs.length + sz ps := by rw [hN, sz_cons]; omega
  have hN2a : N + xs.length ≤ N2 := by omega
  have hN2b : N2 ≤ N + xs.length := by omega
  have hMa : ps.length + 1 ≤ M := by omega
  have hMb : M ≤ ps.length + 1 := by omega
  have HN := hide hN
  have HO := hide hO
  clear hN hN2 hM hO
  go_wp2_with fail
  go_loopw [19] (fun i wr => ∃ (j : Nat), j ≤ O ∧ i = .int .i64 j ∧ Below w.heap.size w wr) (fun i _ => O - (intOf i).toNat)
  case atStart => exact ⟨0, Nat.zero_le _, rfl, Below.refl _ _⟩
  case round =>
    rename World => wx
    obtain ⟨j, hj, rfl, hb⟩ := hrel
    by_cases hjt : j < O
    · obtain ⟨v, e1, e2⟩ := split_fore (hs := hs) (ps := ps) (c := c) xs (k := j) (by rw [← unhide HO]; exact hjt)
      have c1 := cell_lo (hT1.below hb) j v e1
      have c2 := cell_lo (hT2.below hb) j v e2
      have k1 : (j : Int) < (N : Int) := by omega
      have k2 : (0 : Int) ≤ (j : Int) := by omega
      have k3 : (j : Int) < (N2 : Int) := by omega
      clear hT1 hT2 hW1 hW2 hX e1 e2
      go_wp2_with fail
      go_quiet (fail)
      go_wp2
      go_roundw
      case rel => exact ⟨j + 1, hjt, by go_num, below_drewN hb _⟩
      case measure => simp [intOf]; omega
    · go_wp2_with fail
      go_loopw [20] (fun i wr => ∃ (j : Nat), j ≤ xs.length ∧ i = .int .i64 j ∧ Below w.heap.size w wr) (fun i _ => xs.length - (intOf i).toNat)
      case atStart => exact ⟨0, Nat.zero_le _, rfl, hb⟩
      case round =>
        rename World => wy
        clear hb
        obtain ⟨i, hi, rfl, hb⟩ := hrel
        by_cases hit : i < xs.length
        · have e2 := split_mid (hs := hs) (ps := ps) (c := c) xs (k := i) hit
          rw [← unhide HO] at e2
          have c2 := cell_lo (hT2.below hb) (O + i) _ e2
          obtain ⟨b, off, rfl, c1⟩ := hX.below hb i hit
          have k1 : (i : Int) < (xs.length : Int) := by omega
          have k2 : (0 : Int) ≤ (i : Int) := by omega
          have k3 : (O : Int) + (i : Int) < (N2 : Int) := by omega
          have k4 : (0 : Int) ≤ (O : Int) + (i : Int) := by omega
          clear hT1 hT2 hW1 hW2 hX e2
          go_wp2_with fail
          go_quiet (fail)
          go_wp2
          go_roundw
          case rel => exact ⟨i + 1, hit, by go_num, below_drewN hb _⟩
          case measure => simp [intOf]; omega
        · go_wp2_with fail
          go_loopw [21] (fun i wr => ∃ (j : Nat), O ≤ j ∧ j ≤ N ∧ i = .int .i64 j ∧ Below w.heap.size w wr) (fun i _ => N - (intOf i).toNat)
          case atStart => exact ⟨O, Nat.le_refl _, by omega, rfl, hb⟩
          case round =>
            rename World => wz
            clear hb
            obtain ⟨k, hk1, hk2, rfl, hb⟩ := hrel
            by_cases hkt : k < N
            · obtain ⟨v, e1, e2⟩ := split_aft (hs := hs) (ps := ps) (c := c) xs (k := k) (by rw [← unhide HO]; exact hk1) (by rw [← unhide HN]; exact hkt)
              have c1 := cell_lo (hT1.below hb) k v e1
              have c2 := cell_lo (hT2.below hb) (k + xs.length) v e2
              have k1 : (k : Int) < (N : Int) := by omega
              have k2 : (0 : Int) ≤ (k : Int) := by omega
              have k3 : (k : Int) + (xs.length : Int) < (N2 : Int) := by omega
              have k4 : (0 : Int) ≤ (k : Int) + (xs.length : Int) := by omega
              clear hT1 hT2 hW1 hW2 hX e1 e2
              go_wp2_with fail
              go_quiet (fail)
              go_wp2
              go_roundw
              case rel => exact ⟨k + 1, by omega, hkt, by go_num, below_drewN hb _⟩
              case measure => simp [intOf]; omega
            · have hf := unhide HEND wz hb
              have HF := hide hf
              have hXz := hX.below hb
              have hT1z := hT1.below hb
              have hT2z := hT2.below hb
              have hW1z := hW1.below hb
              have hW2z := hW2.below hb
              have hBz := hB.trans (hb.mono hB.size)
              clear hX hT1 hT2 hW1 hW2 hB hf HEND
              go_upto_region 47 with (go_at_K; apply_assumption; exact tailF c g1 g2 P1 P2 N N2 M O xc xa hs xs ps _ _ _ _ _ _ _ _ _ _ _ _ _ _ _ _ _ _ _ _ _ _ _ _ _ _ _ _ _ _ _ _ _ _ _ _ _ _ _ _ _ _ _ _ _ _ _ _ _ _ _ _ _ _ _ _ _ _ _ _ _ _ _ _ _ _ _ _ _ _ _ _ _ _ _ _ _ _ _ _ _ _ _ _ _ _ _ _ _ _ _ _ _ _ _ _ _ _ _ _ _ _ _ _ _ _ _ _ _ _ _ _ _ _ _ _ _ _ _ _ _ _ _ _ _ _ _ _ _ _ _ _ _ _ _ _ _ _ _ _ _ _ _ _ _ _ _ _ _ _ _ _ _ _ _ _ _ _ _ _ _ _ _ _ _ _ _ _ _ _ _ _ _ _ _ _ _ _ _ _ _ _ _ _ _ _ _ _ _ _ _ _ _ _ _ _ _ _ _ _ _ _ _ _ _ _ _ _ _ _ _ _ _ _ _ _ _ _ _ _ _ _ _ wz wB hc hl hxl hps (unhide HF).1 (unhide HF).2.1 (unhide HF).2.2.1 (unhide HF).2.2.2 hXz hT1z hT2z hW1z hW2z hBz)
end Go.Proofs.Qxb6614903a
