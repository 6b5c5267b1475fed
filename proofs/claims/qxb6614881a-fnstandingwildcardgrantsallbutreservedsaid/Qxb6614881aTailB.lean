import Derived.Test.Qxb6614881aLists
import Derived.Test.Qxb6614881aLawA
namespace Go.Proofs.Qxb6614881a
open Go.RowKit

def seqDrop : Nat → Code → Code
  | 0, c => c
  | n + 1, .seq _ b => seqDrop n b
  | _ + 1, c => c

theorem filter_snoc (f : ByteArray → Bool) (ps : List ByteArray) (k : Nat) (hk : k < ps.length) : (ps.take (k + 1)).filter f = (ps.take k).filter f ++ if f ps[k] then [ps[k]] else [] := by
  rw [List.take_succ_eq_append_getElem hk, List.filter_append]
  cases h : f ps[k] <;> simp [h]
theorem filter_le (f : ByteArray → Bool) (ps : List ByteArray) (k : Nat) : ((ps.take k).filter f).length ≤ ps.length := by
  have h1 := List.length_filter_le f (ps.take k)
  have h2 : (ps.take k).length ≤ ps.length := by simp; omega
  omega

/-- The two lists that the law gathers, apart. -/
def Two (w : World) (B : Nat) (v36 v37 : Value) (rs fs : List ByteArray) : Prop :=
  w.ownsRow B 9 1 v36 rs.length (rs.map Value.string) ∧ w.ownsRow B 9 1 v37 fs.length (fs.map Value.string) ∧ (v36.ownBlock = none ∨ v36.ownBlock ≠ v37.ownBlock)
theorem Two.start (w : World) (B : Nat) : Two w B (.slice none 0 0) (.slice none 0 0) [] [] := ⟨World.ownsRow_nil _ _ _ _, World.ownsRow_nil _ _ _ _, .inl rfl⟩
theorem Two.left {w w' : World} {B g cap : Nat} {v36 v37 : Value} {rs fs : List ByteArray} {s : ByteArray} (h : Two w B v36 v37 rs fs) (ho : w'.ownsRow B 9 1 (.slice (some ⟨g, 0, none⟩) (rs.length + 1) cap) (rs.length + 1) (rs.map Value.string ++ [.string s]))
    (hg : w.grownBy w' v36.ownBlock) (hat : v36.ownBlock = some g ∨ w.heap.size ≤ g) : Two w' B (.slice (some ⟨g, 0, none⟩) (rs.length + 1) cap) v37 (rs ++ [s]) fs := by
  obtain ⟨h1, h2, h3⟩ := h
  have hne : v37.ownBlock = none ∨ v37.ownBlock ≠ v36.ownBlock := by
    cases h7 : v37.ownBlock with
    | none => exact .inl rfl
    | some q =>
      right
      rcases h3 with h3 | h3
      · rw [h3]; simp
      · rw [h7] at h3; exact fun e => h3 e.symm
  refine ⟨by simpa using ho, h2.kept hg hne, ?_⟩
  right
  intro e
  have e' : v37.ownBlock = some g := e.symm
  rcases hat with hh | hh
  · rcases hne with h | h
    · rw [h] at e'; cases e'
    · exact h (e'.trans hh.symm)
  · have := (h2.lt g e').2
    omega
theorem Two.right {w w' : World} {B g cap : Nat} {v36 v37 : Value} {rs fs : List ByteArray} {s : ByteArray} (h : Two w B v36 v37 rs fs) (ho : w'.ownsRow B 9 1 (.slice (some ⟨g, 0, none⟩) (fs.length + 1) cap) (fs.length + 1) (fs.map Value.string ++ [.string s]))
    (hg : w.grownBy w' v37.ownBlock) (hat : v37.ownBlock = some g ∨ w.heap.size ≤ g) : Two w' B v36 (.slice (some ⟨g, 0, none⟩) (fs.length + 1) cap) rs (fs ++ [s]) := by
  obtain ⟨h1, h2, h3⟩ := h
  refine ⟨h1.kept hg h3, by simpa using ho, ?_⟩
  cases h6 : v36.ownBlock with
  | none => exact .inl rfl
  | some q =>
    right
    intro e
    have e' : some q = some g := e
    obtain rfl := Option.some.inj e'
    rcases hat with hh | hh
    · rcases h3 with h | h
      · rw [h6] at h; cases h
      · exact h (h6.trans hh.symm)
    · have := (h1.lt q h6).2
      omega
theorem Two.alloc {w : World} {B : Nat} {v36 v37 : Value} {rs fs : List ByteArray} (h : Two w B v36 v37 rs fs) (o : Obj) : Two (w.alloc o) B v36 v37 rs fs := ⟨h.1.alloc _, h.2.1.alloc _, h.2.2⟩
theorem own_slc {w : World} {B : Nat} {v : Value} {l : List ByteArray} (h : w.ownsRow B 9 1 v l.length (l.map Value.string)) : ∃ a c, v = .slice a l.length c ∧ StrsAt w a l := by
  rcases h.2 with ⟨h1, h2⟩ | ⟨g, cap, cur, h1, _⟩
  · refine ⟨none, 0, by rw [h1, h2], fun k hk => by omega⟩
  · subst h1
    exact ⟨_, cap, rfl, own_strs h⟩

set_option maxRecDepth 100000 in
set_option maxHeartbeats 4000000 in
theorem tailB (re ev aw mw b : Bool) (aa ma ta wa la pa ta2 wa2 la2 : Option Addr) (al ac mc tc wcc lc pc tc2 wc2 lc2 : Nat) (ts ms ps wts lx : List ByteArray) (ws wws : List Bool) (ls wls : List (List ByteArray)) (table : ByteArray)
    (u11 u12 u13 u14 u15 u16 u17 u18 u19 u20 u21 u22 u23 u24 u25 u26 u27 u28 u29 u30 u31 u35 u36 u37 u38 u39 u40 u41 u42 u43 u44 u45 u46 u47 u48 u49 u50 u51 u52 u53 u54 u55 u56 u57 u58 u59 u60 u61 u62 u63 u64 u65 u66 u67 u68 u69 u70 u71 u72 u73 u74 u75 u76 u77 u78 u79 u80 u81 u82 u83 u84 u85 u86 u87 u88 u89 u90 u91 u92 u93 u94 u95 u96 u97 u98 u99 u100 u101 u102 u103 u104 u105 u106 u107 u108 u109 u110 u111 u112 u113 u114 u115 u116 u117 u118 u119 u120 u121 u122 u123 u124 u125 u126 u127 u128 u129 u130 u131 u132 u133 u134 u135 u136 u137 u138 u139 u140 u141 u142 u143 u144 u145 u146 u147 u148 u149 u150 u151 u152 u153 u154 u155 u156 u157 u158 u159 u160 u161 u162 u163 u164 u165 u166 u167 u168 u169 u170 u171 u172 u173 u174 u175 u176 u177 u178 u179 u180 u181 u182 u183 u184 u185 u186 u187 u188 u189 u190 u191 u192 u193 u194 u195 u196 u197 u198 u199 u200 u201 u202 u203 u204 u205 u206 u207 u208 u209 u210 u211 u212 u213 u214 u215 u216 u217 u218 u219 u220 u221 u222 u223 u224 u225 u226 u227 u228 u229 u230 u231 u232 u233 u234 u235 u236 u237 u238 u239 u240 u241 u242 u243 u244 u245 u246 u247 u248 u249 u250 u251 u252 u253 u254 u255 u256 u257 u258 u259 u260 u261 u262 u263 u264 u265 u266 u267 u268 u269 u270 u271 u272 u273 u274 u275 u276 u277 u278 u279 u280 u281 u282 u283 u284 u285 u286 : Value) (w wB : World)
    (h2 : ts.length ≤ maxLen) (h4 : ms.length ≤ maxLen) (h5 : ps.length ≤ 1048576) (h6 : wts.length ≤ maxLen) (hw1 : ws.length = ts.length) (hl1 : ls.length = ts.length) (hw2 : wws.length = wts.length) (hl2 : wls.length = wts.length)
    (hT : StrsAt w ta ts) (hW : BoolsAt w wa ws) (hL : ListsAt w la ls) (hM : StrsAt w ma ms) (hP : StrsAt w pa ps) (hT2 : StrsAt w ta2 wts) (hW2 : BoolsAt w wa2 wws) (hL2 : ListsAt w la2 wls) (hB : Below wB.heap.size wB w)
    (hU : (FTo ts ws ls ts.length table = none ∧ lx = []) ∨ FTo ts ws ls ts.length table = some (b, lx)) (hU2 : FTo wts wws wls wts.length table = some (true, lx)) :
    Code.wp Try.prog (seqDrop 19 (Try.f4.body.getD .skip)) (bodyPost Try.prog Try.f4 fun e w' => e = .returned (.bool true) ∧ Below wB.heap.size wB w') ⟨#[.bool re, .bool ev, .bool aw, .slice aa al ac, .slice ta ts.length tc, .slice wa ws.length wcc, .slice la ls.length lc, .bool mw, .slice ma ms.length mc, .string table, .slice pa ps.length pc, u11, u12, u13, u14, u15, u16, u17, u18, u19, u20, u21, u22, u23, u24, u25, u26, u27, u28, u29, u30, u31, .slice ta2 wts.length tc2, .slice wa2 wws.length wc2, .slice la2 wls.length lc2, u35, u36, u37, u38, u39, u40, u41, u42, u43, u44, u45, u46, u47, u48, u49, u50, u51, u52, u53, u54, u55, u56, u57, u58, u59, u60, u61, u62, u63, u64, u65, u66, u67, u68, u69, u70, u71, u72, u73, u74, u75, u76, u77, u78, u79, u80, u81, u82, u83, u84, u85, u86, u87, u88, u89, u90, u91, u92, u93, u94, u95, u96, u97, u98, u99, u100, u101, u102, u103, u104, u105, u106, u107, u108, u109, u110, u111, u112, u113, u114, u115, u116, u117, u118, u119, u120, u121, u122, u123, u124, u125, u126, u127, u128, u129, u130, u131, u132, u133, u134, u135, u136, u137, u138, u139, u140, u141, u142, u143, u144, u145, u146, u147, u148, u149, u150, u151, u152, u153, u154, u155, u156, u157, u158, u159, u160, u161, u162, u163, u164, u165, u166, u167, u168, u169, u170, u171, u172, u173, u174, u175, u176, u177, u178, u179, u180, u181, u182, u183, u184, u185, u186, u187, u188, u189, u190, u191, u192, u193, u194, u195, u196, u197, u198, u199, u200, u201, u202, u203, u204, u205, u206, u207, u208, u209, u210, u211, u212, u213, u214, u215, u216, u217, u218, u219, u220, u221, u222, u223, u224, u225, u226, u227, u228, u229, u230, u231, u232, u233, u234, u235, u236, u237, u238, u239, u240, u241, u242, u243, u244, u245, u246, u247, u248, u249, u250, u251, u252, u253, u254, u255, u256, u257, u258, u259, u260, u261, u262, u263, u264, u265, u266, u267, u268, u269, u270, u271, u272, u273, u274, u275, u276, u277, u278, u279, u280, u281, u282, u283, u284, u285, u286], []⟩ w := by
  conv => arg 2; whnf
  have HU := hide hU
  have HU2 := hide hU2
  have HW1 := hide hw1
  have HL1 := hide hl1
  have HW2 := hide hw2
  have HL2 := hide hl2
  clear hU hU2 hw1 hl1 hw2 hl2
  obtain ⟨i9, hi9, y0, y1, y2⟩ := info_parts Try.info9
  go_wp2_with fail
  go_loopw [36, 37, 38] (fun v36 v37 i wr => ∃ k : Nat, k ≤ ps.length ∧ i = .int .i64 k ∧ Two wr w.heap.size v36 v37 ((ps.take k).filter isRes) ((ps.take k).filter fun p => !isRes p) ∧ Below w.heap.size w wr) (fun _ _ i _ => ps.length - (intOf i).toNat)
  case atStart => exact ⟨0, Nat.zero_le _, rfl, Two.start _ _, Below.refl _ _⟩
  case round =>
    obtain ⟨k, hk, rfl, h2w, hb⟩ := hrel
    by_cases hlt : k < ps.length
    · obtain ⟨bb, off, rfl, c1⟩ := hP.below hb k hlt
      have f1 := filter_snoc isRes ps k hlt
      have f2 := filter_snoc (fun p => !isRes p) ps k hlt
      have n1 := filter_le isRes ps k
      have n2 := filter_le (fun p => !isRes p) ps k
      have hsz := hb.size
      obtain ⟨p, hp⟩ : ∃ p, p = ps[k] := ⟨_, rfl⟩
      rw [← hp] at c1 f1 f2
      have HF1' := hide f1
      have HF2' := hide f2
      clear hp f1 f2 hT hW hL hM hP hT2 hW2 hL2 HU HU2 HW1 HL1 HW2 HL2 hB
      generalize (ps.take k).filter isRes = R at h2w HF1' n1
      generalize ((ps.take k).filter fun p => !isRes p) = F at h2w HF2' n2
      cases hr : isRealm p with
      | true =>
        have hr' : (p.toList == [114, 101, 97, 108, 109, 73, 100]) = true := hr
        have hres : isRes p = true := by simp [isRes, hr]
        have HF1 : Hid ((ps.take (k + 1)).filter isRes = R ++ [p]) := hide (by have := unhide HF1'; rw [hres] at this; exact this)
        have HF2 : Hid (((ps.take (k + 1)).filter fun p => !isRes p) = F) := hide (by have := unhide HF2'; rw [hres] at this; simpa using this)
        clear HF1' HF2' hres hr
        go_wp2_with (at_builtin; refine wpList_append_lies _ rfl (.tmp 230) (.tmp 232) 22 rfl w.heap.size 9 i9 _ 1 16 Try.underlying22 hi9 y0 y1 y2 rfl (by decide) _ R.length (R.map Value.string) rfl ((h2w.alloc _).1) ⟨wr.heap.size, 0, none⟩ 1 1 [.string p] rfl rfl (World.news_of_block (heap_alloc_new wr _)) (one_str _) (by decide) (by unfold maxLen; omega) (by omega) (by simp; omega) (wr.heap.size + 1) (by simp) ?_; intro g cap w1 ho hg hat hgl)
        clear hi9 y0 y1 y2
        go_roundw
        case rel =>
          have hbw : Below w.heap.size w w1 := (hb.alloc hsz _).grown hg (by simp; omega) (fun q hq => (h2w.1.lt q hq).1)
          refine ⟨k + 1, hlt, by go_num, ?_, hbw⟩
          rw [unhide HF1, unhide HF2]
          exact (h2w.alloc _).left ho hg (by rcases hat with e | e; exact .inl e; exact .inr (by simp; omega))
        case measure => simp [intOf]; omega
      | false =>
        have hr' : (p.toList == [114, 101, 97, 108, 109, 73, 100]) = false := hr
        cases ho : isOwner p with
        | true =>
          have ho' : (p.toList == [111, 119, 110, 101, 114]) = true := ho
          have hres : isRes p = true := by simp [isRes, ho]
          have HF1 : Hid ((ps.take (k + 1)).filter isRes = R ++ [p]) := hide (by have := unhide HF1'; rw [hres] at this; exact this)
          have HF2 : Hid (((ps.take (k + 1)).filter fun p => !isRes p) = F) := hide (by have := unhide HF2'; rw [hres] at this; simpa using this)
          clear HF1' HF2' hres hr ho
          go_wp2_with (at_builtin; refine wpList_append_lies _ rfl (.tmp 230) (.tmp 232) 22 rfl w.heap.size 9 i9 _ 1 16 Try.underlying22 hi9 y0 y1 y2 rfl (by decide) _ R.length (R.map Value.string) rfl ((h2w.alloc _).1) ⟨wr.heap.size, 0, none⟩ 1 1 [.string p] rfl rfl (World.news_of_block (heap_alloc_new wr _)) (one_str _) (by decide) (by unfold maxLen; omega) (by omega) (by simp; omega) (wr.heap.size + 1) (by simp) ?_; intro g cap w1 ho hg hat hgl)
          clear hi9 y0 y1 y2
          go_roundw
          case rel =>
            have hbw : Below w.heap.size w w1 := (hb.alloc hsz _).grown hg (by simp; omega) (fun q hq => (h2w.1.lt q hq).1)
            refine ⟨k + 1, hlt, by go_num, ?_, hbw⟩
            rw [unhide HF1, unhide HF2]
            exact (h2w.alloc _).left ho hg (by rcases hat with e | e; exact .inl e; exact .inr (by simp; omega))
          case measure => simp [intOf]; omega
        | false =>
          have ho' : (p.toList == [111, 119, 110, 101, 114]) = false := ho
          have hres : isRes p = false := by simp [isRes, hr, ho]
          have HF1 : Hid ((ps.take (k + 1)).filter isRes = R) := hide (by have := unhide HF1'; rw [hres] at this; simpa using this)
          have HF2 : Hid (((ps.take (k + 1)).filter fun p => !isRes p) = F ++ [p]) := hide (by have := unhide HF2'; rw [hres] at this; exact this)
          clear HF1' HF2' hres hr ho
          go_wp2_with (at_builtin; refine wpList_append_lies _ rfl (.tmp 234) (.tmp 236) 22 rfl w.heap.size 9 i9 _ 1 16 Try.underlying22 hi9 y0 y1 y2 rfl (by decide) _ F.length (F.map Value.string) rfl ((h2w.alloc _).2.1) ⟨wr.heap.size, 0, none⟩ 1 1 [.string p] rfl rfl (World.news_of_block (heap_alloc_new wr _)) (one_str _) (by decide) (by unfold maxLen; omega) (by omega) (by simp; omega) (wr.heap.size + 1) (by simp) ?_; intro g cap w1 ho hg hat hgl)
          clear hi9 y0 y1 y2
          go_roundw
          case rel =>
            have hbw : Below w.heap.size w w1 := (hb.alloc hsz _).grown hg (by simp; omega) (fun q hq => (h2w.2.1.lt q hq).1)
            refine ⟨k + 1, hlt, by go_num, ?_, hbw⟩
            rw [unhide HF1, unhide HF2]
            exact (h2w.alloc _).right ho hg (by rcases hat with e | e; exact .inl e; exact .inr (by simp; omega))
          case measure => simp [intOf]; omega
    · have hkn : k = ps.length := by omega
      have e1 : (ps.take k).filter isRes = ps.filter isRes := by rw [hkn, List.take_length]
      have e2 : ((ps.take k).filter fun p => !isRes p) = ps.filter fun p => !isRes p := by rw [hkn, List.take_length]
      rw [e1, e2] at h2w
      have n1 := List.length_filter_le isRes ps
      have n2 := List.length_filter_le (fun p => !isRes p) ps
      obtain ⟨rs, hrs⟩ : ∃ rs, rs = ps.filter isRes := ⟨_, rfl⟩
      obtain ⟨fs, hfs⟩ : ∃ fs, fs = ps.filter fun p => !isRes p := ⟨_, rfl⟩
      rw [← hrs, ← hfs] at h2w
      rw [← hrs] at n1
      rw [← hfs] at n2
      have HRS := hide hrs
      have HFS := hide hfs
      obtain ⟨o1, o2, -⟩ := h2w
      obtain ⟨ra, rc, rfl, hR⟩ := own_slc o1
      obtain ⟨fa, fc, rfl, hF⟩ := own_slc o2
      clear e1 e2 hrs hfs o1 o2 hkn hi9 y0 y1 y2
      replace hT := hT.below hb
      replace hW := hW.below hb
      replace hL := hL.below hb
      replace hM := hM.below hb
      replace hP := hP.below hb
      replace hT2 := hT2.below hb
      replace hW2 := hW2.below hb
      replace hL2 := hL2.below hb
      replace hB := hB.trans (hb.mono hB.size)
      clear hb
      go_wp2_with fail
      refine (newStanding_len re ev aw mw aa ma ta wa la al ac ms.length mc tc wcc lc ws.length ls.length ts ws ls wr h2 (unhide HW1) (unhide HL1) (unhide HW1) (unhide HL1) hT hW hL).mono ?_
      rintro e w7 ⟨r, rfl, hMN, hb7⟩
      replace hM := hM.below hb7
      replace hP := hP.below hb7
      replace hT2 := hT2.below hb7
      replace hW2 := hW2.below hb7
      replace hL2 := hL2.below hb7
      replace hR := hR.below hb7
      replace hF := hF.below hb7
      replace hB := hB.trans (hb7.mono hB.size)
      obtain ⟨G, hG⟩ : ∃ G, G = FTo ts ws ls ts.length := ⟨_, rfl⟩
      rw [← hG] at hMN
      have HG := hide hG
      clear hT hW hL hb7 hG
      go_wp2_with fail
      obtain ⟨w8, hw8⟩ : ∃ w8, w8 = w7.alloc (.cells #[.bool re, .bool ev, .bool aw, .slice aa al ac, .map (some r), .bool mw, .slice ma ms.length mc] 34) := ⟨_, rfl⟩
      have hb8 : Below w7.heap.size w7 w8 := by subst hw8; exact (Below.refl _ _).alloc (Nat.le_refl _) _
      have hS : StandAt w8 w7.heap.size re ev aw mw aa ma al ac ms.length mc r := by subst hw8; exact standAt_new _ _ _ _ _ _ _ _ _ _ _ _
      rw [← hw8]
      replace hM := hM.below hb8
      replace hP := hP.below hb8
      replace hT2 := hT2.below hb8
      replace hW2 := hW2.below hb8
      replace hL2 := hL2.below hb8
      replace hR := hR.below hb8
      replace hF := hF.below hb8
      replace hMN := hMN.below hb8
      replace hB := hB.trans (hb8.mono hB.size)
      generalize hN : w7.heap.size = N at hS ⊢
      clear hw8 hb8 hN
      go_wp2_with fail
      refine (newStanding_len re ev aw mw aa ma ta2 wa2 la2 al ac ms.length mc tc2 wc2 lc2 wws.length wls.length wts wws wls w8 h6 (unhide HW2) (unhide HL2) (unhide HW2) (unhide HL2) hT2 hW2 hL2).mono ?_
      rintro e w9 ⟨r2, rfl, hMN2, hb9⟩
      replace hM := hM.below hb9
      replace hP := hP.below hb9
      replace hR := hR.below hb9
      replace hF := hF.below hb9
      replace hMN := hMN.below hb9
      replace hS := hS.below hb9
      replace hB := hB.trans (hb9.mono hB.size)
      obtain ⟨G2, hG2⟩ : ∃ G2, G2 = FTo wts wws wls wts.length := ⟨_, rfl⟩
      rw [← hG2] at hMN2
      have HG2 := hide hG2
      clear hT2 hW2 hL2 hb9 hG2
      obtain ⟨s0, s1, s2, s3, s4, s5, s6⟩ : StandAt (w9.alloc (.cells #[.bool re, .bool ev, .bool aw, .slice aa al ac, .map (some r2), .bool mw, .slice ma ms.length mc] 34)) N re ev aw mw aa ma al ac ms.length mc r := hS.below ((Below.refl _ _).alloc (Nat.le_refl _) _)
      go_wp2_with fail
      clear s0 s1 s2 s3 s4 s5 s6
      obtain ⟨w10, hw10⟩ : ∃ w10, w10 = w9.alloc (.cells #[.bool re, .bool ev, .bool aw, .slice aa al ac, .map (some r2), .bool mw, .slice ma ms.length mc] 34) := ⟨_, rfl⟩
      have hb10 : Below w9.heap.size w9 w10 := by subst hw10; exact (Below.refl _ _).alloc (Nat.le_refl _) _
      have hS2 : StandAt w10 w9.heap.size re ev aw mw aa ma al ac ms.length mc r2 := by subst hw10; exact standAt_new _ _ _ _ _ _ _ _ _ _ _ _
      rw [← hw10]
      replace hM := hM.below hb10
      replace hP := hP.below hb10
      replace hR := hR.below hb10
      replace hF := hF.below hb10
      replace hMN := hMN.below hb10
      replace hMN2 := hMN2.below hb10
      replace hS := hS.below hb10
      replace hB := hB.trans (hb10.mono hB.size)
      generalize hN2 : w9.heap.size = N2 at hS2 ⊢
      clear hw10 hb10 hN2
      obtain ⟨s0, s1, s2, s3, s4, s5, s6⟩ := hS
      refine (callMay_any re ev aw mw aa ma pa al ac mc pc r ms ps table G w10 h4 hM (by unfold maxLen; omega) hP hMN).mono ?_
      rintro e w11 ⟨rfl, hbq⟩
      have hS : StandAt w10 N re ev aw mw aa ma al ac ms.length mc r := ⟨s0, s1, s2, s3, s4, s5, s6⟩
      replace hM := hM.below hbq
      replace hP := hP.below hbq
      replace hR := hR.below hbq
      replace hF := hF.below hbq
      replace hMN := hMN.below hbq
      replace hMN2 := hMN2.below hbq
      replace hS := hS.below hbq
      replace hS2 := hS2.below hbq
      replace hB := hB.trans (hbq.mono hB.size)
      obtain ⟨bef, hbv⟩ : ∃ b, b = (ev || mayB mw ms (G table) table ps) := ⟨_, rfl⟩
      rw [← hbv]
      have HBbef := hide hbv
      clear hbv hbq s0 s1 s2 s3 s4 s5 s6
      obtain ⟨s0, s1, s2, s3, s4, s5, s6⟩ := hS2
      go_wp2_with fail
      refine (callMay_any re ev aw mw aa ma pa al ac mc pc r2 ms ps table G2 w11 h4 hM (by unfold maxLen; omega) hP hMN2).mono ?_
      rintro e w12 ⟨rfl, hbq⟩
      have hS2 : StandAt w11 N2 re ev aw mw aa ma al ac ms.length mc r2 := ⟨s0, s1, s2, s3, s4, s5, s6⟩
      replace hM := hM.below hbq
      replace hP := hP.below hbq
      replace hR := hR.below hbq
      replace hF := hF.below hbq
      replace hMN := hMN.below hbq
      replace hMN2 := hMN2.below hbq
      replace hS := hS.below hbq
      replace hS2 := hS2.below hbq
      replace hB := hB.trans (hbq.mono hB.size)
      obtain ⟨aft, hbv⟩ : ∃ b, b = (ev || mayB mw ms (G2 table) table ps) := ⟨_, rfl⟩
      rw [← hbv]
      have HBaft := hide hbv
      clear hbv hbq s0 s1 s2 s3 s4 s5 s6
      obtain ⟨s0, s1, s2, s3, s4, s5, s6⟩ := hS
      go_wp2_with fail
      refine (callMay_any re ev aw mw aa ma ra al ac mc rc r ms rs table G w12 h4 hM (by unfold maxLen; omega) hR hMN).mono ?_
      rintro e w13 ⟨rfl, hbq⟩
      have hS : StandAt w12 N re ev aw mw aa ma al ac ms.length mc r := ⟨s0, s1, s2, s3, s4, s5, s6⟩
      replace hM := hM.below hbq
      replace hP := hP.below hbq
      replace hR := hR.below hbq
      replace hF := hF.below hbq
      replace hMN := hMN.below hbq
      replace hMN2 := hMN2.below hbq
      replace hS := hS.below hbq
      replace hS2 := hS2.below hbq
      replace hB := hB.trans (hbq.mono hB.size)
      obtain ⟨rb, hbv⟩ : ∃ b, b = (ev || mayB mw ms (G table) table rs) := ⟨_, rfl⟩
      rw [← hbv]
      have HBrb := hide hbv
      clear hbv hbq s0 s1 s2 s3 s4 s5 s6
      obtain ⟨s0, s1, s2, s3, s4, s5, s6⟩ := hS2
      go_wp2_with fail
      refine (callMay_any re ev aw mw aa ma fa al ac mc fc r2 ms fs table G2 w13 h4 hM (by unfold maxLen; omega) hF hMN2).mono ?_
      rintro e w14 ⟨rfl, hbq⟩
      have hS2 : StandAt w13 N2 re ev aw mw aa ma al ac ms.length mc r2 := ⟨s0, s1, s2, s3, s4, s5, s6⟩
      replace hM := hM.below hbq
      replace hP := hP.below hbq
      replace hR := hR.below hbq
      replace hF := hF.below hbq
      replace hMN := hMN.below hbq
      replace hMN2 := hMN2.below hbq
      replace hS := hS.below hbq
      replace hS2 := hS2.below hbq
      replace hB := hB.trans (hbq.mono hB.size)
      obtain ⟨fb, hbv⟩ : ∃ b, b = (ev || mayB mw ms (G2 table) table fs) := ⟨_, rfl⟩
      rw [← hbv]
      have HBfb := hide hbv
      clear hbv hbq s0 s1 s2 s3 s4 s5 s6
      have hA : bef = (ev || mayB mw ms (FTo ts ws ls ts.length table) table ps) := by rw [← unhide HG]; exact unhide HBbef
      have hA2 : aft = (ev || mayB mw ms (some (true, lx)) table ps) := by rw [← unhide HU2, ← unhide HG2]; exact unhide HBaft
      have hA3 : rb = (ev || mayB mw ms (FTo ts ws ls ts.length table) table (ps.filter isRes)) := by rw [← unhide HG, ← unhide HRS]; exact unhide HBrb
      have hA4 : fb = (ev || mayB mw ms (some (true, lx)) table (ps.filter fun p => !isRes p)) := by rw [← unhide HU2, ← unhide HG2, ← unhide HFS]; exact unhide HBfb
      obtain ⟨q1, q2, q3⟩ := plain4 ev mw b ms lx (FTo ts ws ls ts.length table) table ps (unhide HU)
      rw [← hA2, ← hA3] at q1
      rw [← hA4] at q2
      rw [← hA, ← hA2] at q3
      clear hA hA2 hA3 hA4
      subst q2
      subst q1
      cases bef with
      | false =>
        cases aft with
        | false => go_wp2; go_ret; exact ⟨rfl, hB⟩
        | true => go_wp2; go_ret; exact ⟨rfl, hB⟩
      | true =>
        obtain rfl := q3 rfl
        go_wp2
        go_ret
        exact ⟨rfl, hB⟩
end Go.Proofs.Qxb6614881a
