import Derived.Test.Qxb6614903aPutPlain
import Derived.Deep.CutBlock
import Derived.Deep.DeepCutAuto
namespace Go.Proofs.Qxb6614903a
open Go.RowKit

set_option maxRecDepth 100000 in
set_option maxHeartbeats 4000000 in
theorem tailF (c g1 g2 P1 P2 N N2 M O xc : Nat) (xa : Option Addr) (hs xs : List Int) (ps : List (List Int))
    (u0 u1 u4 u5 u6 u7 u8 u9 u10 u11 u12 u18 u19 u20 u21 u22 u23 u24 u25 u26 u27 u28 u29 u30 u31 u32 u33 u34 u35 u36 u37 u38 u39 u40 u41 u42 u43 u44 u45 u46 u47 u48 u49 u50 u51 u52 u53 u54 u55 u56 u57 u58 u59 u60 u61 u62 u63 u64 u65 u66 u67 u68 u69 u70 u71 u72 u73 u74 u75 u76 u77 u78 u79 u80 u81 u82 u83 u84 u85 u86 u87 u88 u89 u90 u91 u92 u93 u94 u95 u96 u97 u98 u99 u100 u101 u102 u103 u104 u105 u106 u107 u108 u109 u110 u111 u112 u113 u114 u115 u116 u117 u118 u119 u120 u121 u122 u123 u124 u125 u126 u127 u128 u129 u130 u131 u132 u133 u134 u135 u136 u137 u138 u139 u140 u141 u142 u143 u144 u145 u146 u147 u148 u149 u150 u151 u152 u153 u154 u155 u156 u157 u158 u159 u160 u161 u162 u163 u164 u165 u166 u167 u168 u169 u170 u171 u172 u173 u174 u175 u176 u177 u178 u179 u180 u181 u182 u183 u184 u185 u186 u187 u188 u189 u190 u191 u192 u193 u194 u195 u196 u197 u198 u199 u200 u201 u202 u203 u204 u205 u206 u207 u208 u209 u210 u211 u212 u213 u214 u215 u216 u217 u218 u219 u220 u221 u222 u223 u224 u225 u226 u227 u228 u229 : Value) (w wB : World)
    (hc : c ≤ ps.length) (hl : ps.length ≤ 1048576) (hxl : xs.length ≤ 1048576) (hps : sz ps ≤ 1048576)
    (hN : N = 48 + sz (hs :: ps)) (hN2 : N2 = N + xs.length) (hM : M = ps.length + 1) (hO : O = 44 + hs.length + tot ps c) (hX : BytesAt w xa xs)
    (hT1 : BytesAt w (some ⟨g1, 0, none⟩) (text (hs :: ps))) (hT2 : BytesAt w (some ⟨g2, 0, none⟩) (text (hs :: putp ps c xs))) (hW1 : Views w P1 g1 (44 + hs.length) ps) (hW2 : Views w P2 g2 (44 + hs.length) (putp ps c xs)) (hB : Below wB.heap.size wB w) :
    Code.wp Try.prog (seqDrop 23 (Try.f4.body.getD .skip)) (bodyPost Try.prog Try.f4 fun e w' => e = .returned (.bool true) ∧ Below wB.heap.size wB w') ⟨#[u0, u1, .int .i64 c, .slice xa xs.length xc, u4, u5, u6, u7, u8, u9, u10, u11, u12, .slice (some ⟨g1, 0, none⟩) N N, .slice (some ⟨P1, 0, none⟩) ps.length ps.length, .slice (some ⟨g2, 0, none⟩) N2 N2, .slice (some ⟨P2, 0, none⟩) M M, .int .i64 O, u18, u19, u20, u21, u22, u23, u24, u25, u26, u27, u28, u29, u30, u31, u32, u33, u34, u35, u36, u37, u38, u39, u40, u41, u42, u43, u44, u45, u46, u47, u48, u49, u50, u51, u52, u53, u54, u55, u56, u57, u58, u59, u60, u61, u62, u63, u64, u65, u66, u67, u68, u69, u70, u71, u72, u73, u74, u75, u76, u77, u78, u79, u80, u81, u82, u83, u84, u85, u86, u87, u88, u89, u90, u91, u92, u93, u94, u95, u96, u97, u98, u99, u100, u101, u102, u103, u104, u105, u106, u107, u108, u109, u110, u111, u112, u113, u114, u115, u116, u117, u118, u119, u120, u121, u122, u123, u124, u125, u126, u127, u128, u129, u130, u131, u132, u133, u134, u135, u136, u137, u138, u139, u140, u141, u142, u143, u144, u145, u146, u147, u148, u149, u150, u151, u152, u153, u154, u155, u156, u157, u158, u159, u160, u161, u162, u163, u164, u165, u166, u167, u168, u169, u170, u171, u172, u173, u174, u175, u176, u177, u178, u179, u180, u181, u182, u183, u184, u185, u186, u187, u188, u189, u190, u191, u192, u193, u194, u195, u196, u197, u198, u199, u200, u201, u202, u203, u204, u205, u206, u207, u208, u209, u210, u211, u212, u213, u214, u215, u216, u217, u218, u219, u220, u221, u222, u223, u224, u225, u226, u227, u228, u229], []⟩ w := by
  conv => arg 2; whnf
  have hO1 : O ≤ 44 + hs.length + sz ps := by have := tot_le ps c; omega
  have hNa : 48 + hs.length + sz ps ≤ N := by rw [hN, sz_cons]; omega
  have hNb : N ≤ 48 + hs.length + sz ps := by rw [hN, sz_cons]; omega
  have hN2a : N + xs.length ≤ N2 := by omega
  have hN2b : N2 ≤ N + xs.length := by omega
  have hMa : ps.length + 1 ≤ M := by omega
  have hMb : M ≤ ps.length + 1 := by omega
  have HN := hide hN
  have HO := hide hO
  clear hN hN2 hM hO
  go_wp2_with fail
  go_loopw [22] (fun i wr => ∃ (j : Nat), j ≤ c ∧ i = .int .i64 j ∧ Below w.heap.size w wr) (fun i _ => c - (intOf i).toNat)
  case atStart => exact ⟨0, Nat.zero_le _, rfl, Below.refl _ _⟩
  case round =>
    rename World => wx
    obtain ⟨j, hj, rfl, hb⟩ := hrel
    by_cases hjt : j < c
    · have hjp : j < ps.length := by omega
      have hjq : j < (putp ps c xs).length := by rw [putp_len ps c xs hc]; omega
      have he : (putp ps c xs)[j] = ps[j] := putp_lt ps c xs j hc hjt hjq hjp
      have hbd : Below w.heap.size w wx.drew := hb.drew
      obtain ⟨q2, x2, y2⟩ := hW2.below hbd j hjq
      obtain ⟨q1, x1, y1⟩ := hW1.below hbd j hjp
      have t2 := view_at (hT2.below hbd) j hjq rfl y2
      have t1 := view_at (hT1.below hbd) j hjp rfl y1
      rw [he] at x2 t2
      have hpk := part_le ps j hjp
      have hlk : ps[j].length ≤ 1048576 := by omega
      have k1 : (j : Int) < (ps.length : Int) := by omega
      have k2 : (0 : Int) ≤ (j : Int) := by omega
      have k3 : (j : Int) < (M : Int) := by omega
      obtain ⟨l, hle⟩ : ∃ l, l = ps[j].length := ⟨_, rfl⟩
      have HLE := hide hle
      rw [← hle] at x1 x2 hlk
      clear hpk hW1 hW2 hT1 hT2 y1 y2 he hle hX
      go_wp2_with fail
      go_region_held3 (fun w' => w'.cell? ⟨P2, j, none⟩ = some (.slice (some ⟨g2, q2, none⟩) l l) ∧ w'.cell? ⟨P1, j, none⟩ = some (.slice (some ⟨g1, q1, none⟩) l l)) (first | exact ⟨x2, x1⟩ | exact ⟨cell_keep x2 hb7, cell_keep x1 hb7⟩)
        (first
          | (go_at_call 16; refine (sameBytes_len _ _ _ _ l l ps[j] wx.drew (unhide HLE).symm (unhide HLE).symm (by rw [← unhide HLE]; unfold maxLen; omega) t2 t1).mono ?_; rintro e w8 ⟨rfl, hb7⟩))
      have hb8 : Below w.heap.size w w8 := hbd.trans (hb7.mono hbd.size)
      clear x1 x2 t1 t2 hb hbd hb7
      go_wp2
      go_roundw
      case rel => exact ⟨j + 1, hjt, by go_num, hb8⟩
      case measure => simp [intOf]; omega
    · have hcq : c < (putp ps c xs).length := by rw [putp_len ps c xs hc]; omega
      have he : (putp ps c xs)[c] = xs := putp_eq ps c xs hc hcq
      obtain ⟨qc, xcc, yc⟩ := hW2.below hb c hcq
      have tc := view_at (hT2.below hb) c hcq rfl yc
      rw [he] at xcc tc
      have hqc : 0 < xs.length → qc = O := fun h => by
        have e1 := yc (by rw [he]; exact h)
        rw [tot_putp ps c xs hc] at e1
        exact e1.trans (unhide HO).symm
      have HQC := hide hqc
      have k1 : (c : Int) < (M : Int) := by omega
      have k2 : (0 : Int) ≤ (c : Int) := by omega
      clear yc he hqc
      go_wp2_with fail
      refine (sameBytes_any _ _ _ _ xs wx (by unfold maxLen; omega) tc (hX.below hb)).mono ?_
      rintro e w2 ⟨rfl, hb2⟩
      have x3 := cell_keep xcc hb2
      have hB2 : Below w.heap.size w w2 := hb.trans (hb2.mono hb.size)
      clear hb hb2 tc xcc hX
      go_upto_region 54 with fail
      go_cut [211] (fun x wr => x = .bool false ∧ Below w.heap.size w wr)
      case first =>
        have np := neqPtr
        clear hW1 hW2 hT1 hT2
        by_cases hp : 0 < xs.length
        · have hqo := unhide HQC hp
          subst hqo
          have k3 : (qc : Int) < (N2 : Int) := by omega
          have k4 : (0 : Int) ≤ (qc : Int) := by omega
          have k5 : (0 : Int) < (xs.length : Int) := by omega
          clear HQC
          go_quiet (fail)
          go_wp2
          go_meet
          case rel => exact ⟨rfl, below_drewN hB2 _⟩
        · clear HQC
          go_quiet (fail)
          go_wp2
          go_meet
          case rel => exact ⟨rfl, below_drewN hB2 _⟩
      rename World => w3
      obtain ⟨rfl, hB3⟩ := hcut
      clear x3 hB2 HQC
      go_wp2_with fail
      go_loopw [23] (fun i wr => ∃ (j : Nat), c ≤ j ∧ j ≤ ps.length ∧ i = .int .i64 j ∧ Below w.heap.size w wr) (fun i _ => ps.length - (intOf i).toNat)
      case atStart => exact ⟨c, Nat.le_refl _, hc, rfl, hB3⟩
      case round =>
        rename World => wy
        clear hB3
        obtain ⟨j, hcj, hjl, rfl, hb⟩ := hrel
        by_cases hjp : j < ps.length
        · have hjq : j + 1 < (putp ps c xs).length := by rw [putp_len ps c xs hc]; omega
          have he : (putp ps c xs)[j + 1] = ps[j] := putp_gt ps c xs j hc hcj hjq hjp
          have hbd : Below w.heap.size w wy.drew := hb.drew
          obtain ⟨q2, x2, y2⟩ := hW2.below hbd (j + 1) hjq
          obtain ⟨q1, x1, y1⟩ := hW1.below hbd j hjp
          have t2 := view_at (hT2.below hbd) (j + 1) hjq rfl y2
          have t1 := view_at (hT1.below hbd) j hjp rfl y1
          rw [he] at x2 t2
          have hpk := part_le ps j hjp
          have hlk : ps[j].length ≤ 1048576 := by omega
          have k1 : (j : Int) < (ps.length : Int) := by omega
          have k2 : (0 : Int) ≤ (j : Int) := by omega
          obtain ⟨s, hse⟩ : ∃ s, s = j + 1 := ⟨_, rfl⟩
          have hwr : IntKind.i64.wrap ((j : Int) + 1) = (s : Int) := by rw [IntKind.wrap_i64]; omega
          have k3 : (s : Int) < (M : Int) := by omega
          have k4 : (0 : Int) ≤ (s : Int) := by omega
          obtain ⟨l, hle⟩ : ∃ l, l = ps[j].length := ⟨_, rfl⟩
          have HLE := hide hle
          rw [← hle] at x1 x2 hlk
          rw [← hse] at x2
          have HSE := hide hse
          clear hpk hW1 hW2 hT1 hT2 y1 y2 he hle hse
          go_wp2_with fail
          go_region_held3 (fun w' => w'.cell? ⟨P2, s, none⟩ = some (.slice (some ⟨g2, q2, none⟩) l l) ∧ w'.cell? ⟨P1, j, none⟩ = some (.slice (some ⟨g1, q1, none⟩) l l)) (first | exact ⟨x2, x1⟩ | exact ⟨cell_keep x2 hb7, cell_keep x1 hb7⟩)
            (first
              | (go_at_call 16; refine (sameBytes_len _ _ _ _ l l ps[j] wy.drew (unhide HLE).symm (unhide HLE).symm (by rw [← unhide HLE]; unfold maxLen; omega) t2 t1).mono ?_; rintro e w8 ⟨rfl, hb7⟩))
          have hb8 : Below w.heap.size w w8 := hbd.trans (hb7.mono hbd.size)
          clear x1 x2 t1 t2 hb hbd hb7
          go_wp2
          go_roundw
          case rel => exact ⟨s, by rw [unhide HSE]; omega, by rw [unhide HSE]; exact hjp, rfl, hb8⟩
          case measure => have := unhide HSE; simp [intOf]; omega
        · clear hW1 hW2 hT1 hT2
          go_wp2
          go_ret
          exact ⟨rfl, hB.trans (hb.mono hB.size)⟩
end Go.Proofs.Qxb6614903a
