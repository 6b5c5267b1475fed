import Derived.Test.Qxb6614881aTailA2
namespace Go.Proofs.Qxb6614881a
open Go.RowKit

def BelowTo (ts : List ByteArray) (table : ByteArray) (k : Nat) : Prop := ∀ j (hj : j < ts.length), j < k → lt ts[j] table = true
theorem BelowTo.zero (ts : List ByteArray) (table : ByteArray) : BelowTo ts table 0 := fun j _ h => by omega
theorem BelowTo.succ {ts : List ByteArray} {table : ByteArray} {k : Nat} (h : BelowTo ts table k) (hk : k < ts.length) (hl : lt ts[k] table = true) : BelowTo ts table (k + 1) := fun j hj h' => by
  by_cases e : j = k
  · subst e; exact hl
  · exact h j hj (by omega)

set_option maxRecDepth 100000 in
set_option maxHeartbeats 4000000 in
theorem tailA (re ev aw mw : Bool) (aa ma ta wa la pa : Option Addr) (al ac mc tc wcc lc pc : Nat) (ts ms ps : List ByteArray) (ws : List Bool) (ls : List (List ByteArray)) (table : ByteArray)
    (u11 u12 u13 u14 u15 u16 u17 u18 u19 u20 u21 u22 u23 u24 u25 u26 u27 u28 u29 u30 u31 u32 u33 u34 u35 u36 u37 u38 u39 u40 u41 u42 u43 u44 u45 u46 u47 u48 u49 u50 u51 u52 u53 u54 u55 u56 u57 u58 u59 u60 u61 u62 u63 u64 u65 u66 u67 u68 u69 u70 u71 u72 u73 u74 u75 u76 u77 u78 u79 u80 u81 u82 u83 u84 u85 u86 u87 u88 u89 u90 u91 u92 u93 u94 u95 u96 u97 u98 u99 u100 u101 u102 u103 u104 u105 u106 u107 u108 u109 u110 u111 u112 u113 u114 u115 u116 u117 u118 u119 u120 u121 u122 u123 u124 u125 u126 u127 u128 u129 u130 u131 u132 u133 u134 u135 u136 u137 u138 u139 u140 u141 u142 u143 u144 u145 u146 u147 u148 u149 u150 u151 u152 u153 u154 u155 u156 u157 u158 u159 u160 u161 u162 u163 u164 u165 u166 u167 u168 u169 u170 u171 u172 u173 u174 u175 u176 u177 u178 u179 u180 u181 u182 u183 u184 u185 u186 u187 u188 u189 u190 u191 u192 u193 u194 u195 u196 u197 u198 u199 u200 u201 u202 u203 u204 u205 u206 u207 u208 u209 u210 u211 u212 u213 u214 u215 u216 u217 u218 u219 u220 u221 u222 u223 u224 u225 u226 u227 u228 u229 u230 u231 u232 u233 u234 u235 u236 u237 u238 u239 u240 u241 u242 u243 u244 u245 u246 u247 u248 u249 u250 u251 u252 u253 u254 u255 u256 u257 u258 u259 u260 u261 u262 u263 u264 u265 u266 u267 u268 u269 u270 u271 u272 u273 u274 u275 u276 u277 u278 u279 u280 u281 u282 u283 u284 u285 u286 : Value) (w wB : World)
    (h2 : ts.length ≤ 1048576) (h4 : ms.length ≤ maxLen) (h5 : ps.length ≤ 1048576) (hw1 : ws.length = ts.length) (hl1 : ls.length = ts.length)
    (hT : StrsAt w ta ts) (hW : BoolsAt w wa ws) (hL : ListsAt w la ls) (hM : StrsAt w ma ms) (hP : StrsAt w pa ps) (hB : Below wB.heap.size wB w) (hso : SortedTo ts ts.length) :
    Code.wp Try.prog (seqDrop 9 (Try.f4.body.getD .skip)) (bodyPost Try.prog Try.f4 fun e w' => e = .returned (.bool true) ∧ Below wB.heap.size wB w') ⟨#[.bool re, .bool ev, .bool aw, .slice aa al ac, .slice ta ts.length tc, .slice wa ws.length wcc, .slice la ls.length lc, .bool mw, .slice ma ms.length mc, .string table, .slice pa ps.length pc, u11, u12, u13, u14, u15, u16, u17, u18, u19, u20, u21, u22, u23, u24, u25, u26, u27, u28, u29, u30, u31, u32, u33, u34, u35, u36, u37, u38, u39, u40, u41, u42, u43, u44, u45, u46, u47, u48, u49, u50, u51, u52, u53, u54, u55, u56, u57, u58, u59, u60, u61, u62, u63, u64, u65, u66, u67, u68, u69, u70, u71, u72, u73, u74, u75, u76, u77, u78, u79, u80, u81, u82, u83, u84, u85, u86, u87, u88, u89, u90, u91, u92, u93, u94, u95, u96, u97, u98, u99, u100, u101, u102, u103, u104, u105, u106, u107, u108, u109, u110, u111, u112, u113, u114, u115, u116, u117, u118, u119, u120, u121, u122, u123, u124, u125, u126, u127, u128, u129, u130, u131, u132, u133, u134, u135, u136, u137, u138, u139, u140, u141, u142, u143, u144, u145, u146, u147, u148, u149, u150, u151, u152, u153, u154, u155, u156, u157, u158, u159, u160, u161, u162, u163, u164, u165, u166, u167, u168, u169, u170, u171, u172, u173, u174, u175, u176, u177, u178, u179, u180, u181, u182, u183, u184, u185, u186, u187, u188, u189, u190, u191, u192, u193, u194, u195, u196, u197, u198, u199, u200, u201, u202, u203, u204, u205, u206, u207, u208, u209, u210, u211, u212, u213, u214, u215, u216, u217, u218, u219, u220, u221, u222, u223, u224, u225, u226, u227, u228, u229, u230, u231, u232, u233, u234, u235, u236, u237, u238, u239, u240, u241, u242, u243, u244, u245, u246, u247, u248, u249, u250, u251, u252, u253, u254, u255, u256, u257, u258, u259, u260, u261, u262, u263, u264, u265, u266, u267, u268, u269, u270, u271, u272, u273, u274, u275, u276, u277, u278, u279, u280, u281, u282, u283, u284, u285, u286], []⟩ w := by
  conv => arg 2; whnf
  have HW1 := hide hw1
  have HL1 := hide hl1
  have HSO := hide hso
  clear hw1 hl1 hso
  go_upto_block 0 with fail
  go_cut [29] (fun v wr => ∃ k : Nat, v = .int .i64 k ∧ k ≤ ts.length ∧ BelowTo ts table k ∧ (∀ h : k < ts.length, lt ts[k] table = false) ∧ wr = w)
  case first =>
    go_wp2_with fail
    go_loop [29] (fun i => ∃ k : Nat, i = .int .i64 k ∧ k ≤ ts.length ∧ BelowTo ts table k) (fun i => ts.length - (intOf i).toNat)
    case atStart => exact ⟨0, rfl, Nat.zero_le _, BelowTo.zero _ _⟩
    case round =>
      obtain ⟨k, rfl, hk, hbt⟩ := hrel
      have HBT := hide hbt
      clear hbt
      by_cases hlt : k < ts.length
      · obtain ⟨b, off, rfl, c1⟩ := hT k hlt
        cases hc : lt ts[k] table with
        | true =>
          have hc' : Op.bytesLess ts[k].toList table.toList = true := hc
          go_wp2
          go_round
          case rel => exact ⟨k + 1, by go_num, hlt, (unhide HBT).succ hlt hc⟩
          case measure => simp [intOf]; omega
        | false =>
          have hc' : Op.bytesLess ts[k].toList table.toList = false := hc
          go_wp2
          go_meet
          case rel => exact ⟨k, rfl, hk, unhide HBT, fun _ => hc, rfl⟩
      · go_wp2
        go_meet
        case rel => exact ⟨k, rfl, hk, unhide HBT, fun h => absurd h hlt, rfl⟩
  rename World => w'
  obtain ⟨k, rfl, hk, hbt, hst, rfl⟩ := hcut
  by_cases hfound : ∃ h : k < ts.length, ts[k] = table
  · obtain ⟨hlt, e⟩ := hfound
    have hpl : Place ts table k true := ⟨hk, hbt, hst, ⟨fun _ => ⟨hlt, e⟩, fun _ => rfl⟩⟩
    have HPL := hide hpl
    obtain ⟨b, off, hta, c1⟩ := hT k hlt
    have c2 : w'.cell? ⟨b, off + k, none⟩ = some (.string table) := by rw [← e]; exact c1
    have HE := hide e
    clear hpl hst hbt c1 e
    subst hta
    go_upto_if 148 with fail
    go_upto_region 35 with (go_at_K; apply_assumption; exact tailA2 re ev aw mw true aa ma (some ⟨b, off, none⟩) wa la pa al ac mc tc wcc lc pc k ts.length ts ms ps ws ls table _ _ _ _ _ _ _ _ _ _ _ _ _ _ _ _ _ _ _ _ _ _ _ _ _ _ _ _ _ _ _ _ _ _ _ _ _ _ _ _ _ _ _ _ _ _ _ _ _ _ _ _ _ _ _ _ _ _ _ _ _ _ _ _ _ _ _ _ _ _ _ _ _ _ _ _ _ _ _ _ _ _ _ _ _ _ _ _ _ _ _ _ _ _ _ _ _ _ _ _ _ _ _ _ _ _ _ _ _ _ _ _ _ _ _ _ _ _ _ _ _ _ _ _ _ _ _ _ _ _ _ _ _ _ _ _ _ _ _ _ _ _ _ _ _ _ _ _ _ _ _ _ _ _ _ _ _ _ _ _ _ _ _ _ _ _ _ _ _ _ _ _ _ _ _ _ _ _ _ _ _ _ _ _ _ _ _ _ _ _ _ _ _ _ _ _ _ _ _ _ _ _ _ _ _ _ _ _ _ _ _ _ _ _ _ _ _ _ _ _ _ _ _ _ _ _ _ _ _ _ _ _ _ _ _ _ _ _ _ _ _ _ _ _ _ _ _ _ _ _ _ _ _ _ _ _ _ _ _ _ _ _ _ _ _ _ _ _ _ _ _ _ _ wB h2 h4 h5 (unhide HW1) (unhide HL1) hT hW hL hM hP hB (unhide HPL) (unhide HSO) (by simp))

  · have hpl : Place ts table k false := ⟨hk, hbt, hst, ⟨fun h => by simp at h, fun h => absurd h hfound⟩⟩
    have HPL := hide hpl
    clear hpl hst hbt
    by_cases hlt : k < ts.length
    · obtain ⟨b, off, hta, c1⟩ := hT k hlt
      have hne : (ts[k].toList == table.toList) = false := beq_ne fun e => hfound ⟨hlt, e⟩
      subst hta
      clear hfound
      go_upto_if 148 with fail
      go_upto_region 35 with (go_at_K; apply_assumption; exact tailA2 re ev aw mw false aa ma (some ⟨b, off, none⟩) wa la pa al ac mc tc wcc lc pc k (ts.length + 1) ts ms ps ws ls table _ _ _ _ _ _ _ _ _ _ _ _ _ _ _ _ _ _ _ _ _ _ _ _ _ _ _ _ _ _ _ _ _ _ _ _ _ _ _ _ _ _ _ _ _ _ _ _ _ _ _ _ _ _ _ _ _ _ _ _ _ _ _ _ _ _ _ _ _ _ _ _ _ _ _ _ _ _ _ _ _ _ _ _ _ _ _ _ _ _ _ _ _ _ _ _ _ _ _ _ _ _ _ _ _ _ _ _ _ _ _ _ _ _ _ _ _ _ _ _ _ _ _ _ _ _ _ _ _ _ _ _ _ _ _ _ _ _ _ _ _ _ _ _ _ _ _ _ _ _ _ _ _ _ _ _ _ _ _ _ _ _ _ _ _ _ _ _ _ _ _ _ _ _ _ _ _ _ _ _ _ _ _ _ _ _ _ _ _ _ _ _ _ _ _ _ _ _ _ _ _ _ _ _ _ _ _ _ _ _ _ _ _ _ _ _ _ _ _ _ _ _ _ _ _ _ _ _ _ _ _ _ _ _ _ _ _ _ _ _ _ _ _ _ _ _ _ _ _ _ _ _ _ _ _ _ _ _ _ _ _ _ _ _ _ _ _ _ _ _ _ _ _ wB h2 h4 h5 (unhide HW1) (unhide HL1) hT hW hL hM hP hB (unhide HPL) (unhide HSO) (by simp))

    · clear hfound
      go_upto_if 148 with fail
      go_upto_region 35 with (go_at_K; apply_assumption; exact tailA2 re ev aw mw false aa ma ta wa la pa al ac mc tc wcc lc pc k (ts.length + 1) ts ms ps ws ls table _ _ _ _ _ _ _ _ _ _ _ _ _ _ _ _ _ _ _ _ _ _ _ _ _ _ _ _ _ _ _ _ _ _ _ _ _ _ _ _ _ _ _ _ _ _ _ _ _ _ _ _ _ _ _ _ _ _ _ _ _ _ _ _ _ _ _ _ _ _ _ _ _ _ _ _ _ _ _ _ _ _ _ _ _ _ _ _ _ _ _ _ _ _ _ _ _ _ _ _ _ _ _ _ _ _ _ _ _ _ _ _ _ _ _ _ _ _ _ _ _ _ _ _ _ _ _ _ _ _ _ _ _ _ _ _ _ _ _ _ _ _ _ _ _ _ _ _ _ _ _ _ _ _ _ _ _ _ _ _ _ _ _ _ _ _ _ _ _ _ _ _ _ _ _ _ _ _ _ _ _ _ _ _ _ _ _ _ _ _ _ _ _ _ _ _ _ _ _ _ _ _ _ _ _ _ _ _ _ _ _ _ _ _ _ _ _ _ _ _ _ _ _ _ _ _ _ _ _ _ _ _ _ _ _ _ _ _ _ _ _ _ _ _ _ _ _ _ _ _ _ _ _ _ _ _ _ _ _ _ _ _ _ _ _ _ _ _ _ _ _ _ _ wB h2 h4 h5 (unhide HW1) (unhide HL1) hT hW hL hM hP hB (unhide HPL) (unhide HSO) (by simp))

end Go.Proofs.Qxb6614881a
