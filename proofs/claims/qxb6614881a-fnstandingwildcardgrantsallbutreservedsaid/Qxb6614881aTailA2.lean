import Derived.Test.Qxb6614881aTailB
namespace Go.Proofs.Qxb6614881a
open Go.RowKit

theorem Try.info22 : (Try.prog.info? 22).map (fun i => (i.zero, i.size, i.bytes)) = some (some (.slice none 0 0), 1, 24) := by kernel_rfl
theorem StrsAt.cell {w : World} {b off : Nat} {l : List ByteArray} (h : StrsAt w (some ⟨b, off, none⟩) l) (k : Nat) (hk : k < l.length) : w.cell? ⟨b, off + k, none⟩ = some (.string l[k]) := by
  obtain ⟨b', off', h1, h2⟩ := h k hk
  cases h1
  exact h2
theorem BoolsAt.cell {w : World} {b off : Nat} {l : List Bool} (h : BoolsAt w (some ⟨b, off, none⟩) l) (k : Nat) (hk : k < l.length) : w.cell? ⟨b, off + k, none⟩ = some (.bool l[k]) := by
  obtain ⟨b', off', h1, h2⟩ := h k hk
  cases h1
  exact h2
/-- The values of a slice, as they lie. -/
def ValsAt (w : World) (ao : Option Addr) (vs : List Value) : Prop := ∀ k (hk : k < vs.length), ∃ b off, ao = some ⟨b, off, none⟩ ∧ w.cell? ⟨b, off + k, none⟩ = some vs[k]
theorem ValsAt.below {w w' : World} {ao : Option Addr} {vs : List Value} (h : ValsAt w ao vs) (hb : Below w.heap.size w w') : ValsAt w' ao vs := fun k hk => by
  obtain ⟨b, off, h1, h2⟩ := h k hk
  refine ⟨b, off, h1, ?_⟩
  exact (hb.cell (p := ⟨b, off + k, none⟩) (World.block_lt_of_cell? w _ h2)).trans h2
theorem ValsAt.cell {w : World} {b off : Nat} {vs : List Value} (h : ValsAt w (some ⟨b, off, none⟩) vs) (k : Nat) (hk : k < vs.length) {v : Value} (hv : vs[k] = v) : w.cell? ⟨b, off + k, none⟩ = some v := by
  obtain ⟨b', off', h1, h2⟩ := h k hk
  cases h1
  rw [← hv]; exact h2

/-- The three rows, each in its own block. -/
def Three (w : World) (B g1 g2 g3 sz L : Nat) (xs : List ByteArray) (ys : List Bool) (zs : List Value) : Prop :=
  w.ownsRow B 9 1 (.slice (some ⟨g1, 0, none⟩) L sz) L (xs.map Value.string) ∧ w.ownsRow B 4 1 (.slice (some ⟨g2, 0, none⟩) L sz) L (ys.map Value.bool) ∧ w.ownsRow B 22 1 (.slice (some ⟨g3, 0, none⟩) L sz) L zs
theorem Three.done {w : World} {B g1 g2 g3 sz L : Nat} {xs xs' : List ByteArray} {ys ys' : List Bool} {zs zs' : List Value} (h : Three w B g1 g2 g3 sz L xs ys zs) (e1 : xs' = xs) (e2 : ys' = ys) (e3 : zs' = zs) : Three w B g1 g2 g3 sz L xs' ys' zs' := by
  subst e1 e2 e3; exact h
theorem Three.make {w w' : World} {B g1 g2 g3 sz L : Nat} {xs : List ByteArray} {ys : List Bool} {zs : List Value} {s : ByteArray} {y : Bool} {z : Value}
    (h1 : w.ownsRow B 9 1 (.slice (some ⟨g1, 0, none⟩) L sz) L (xs.map Value.string ++ [.string s])) (h2 : w.ownsRow B 4 1 (.slice (some ⟨g2, 0, none⟩) L sz) L (ys.map Value.bool ++ [.bool y])) (h3 : w'.ownsRow B 22 1 (.slice (some ⟨g3, 0, none⟩) L sz) L (zs ++ [z]))
    (hg : w.grownBy w' (some g3)) (n1 : g1 ≠ g3) (n2 : g2 ≠ g3) : Three w' B g1 g2 g3 sz L (xs ++ [s]) (ys ++ [y]) (zs ++ [z]) :=
  ⟨by have := own_kept_ne h1 hg n1; simpa using this, by have := own_kept_ne h2 hg n2; simpa using this, h3⟩

theorem tailB_len (re ev aw mw b : Bool) (aa ma ta wa la pa ta2 wa2 la2 : Option Addr) (al ac mc tc wcc lc pc tc2 wc2 lc2 n1 n2 n3 : Nat) (ts ms ps wts lx : List ByteArray) (ws wws : List Bool) (ls wls : List (List ByteArray)) (table : ByteArray)
    (u11 u12 u13 u14 u15 u16 u17 u18 u19 u20 u21 u22 u23 u24 u25 u26 u27 u28 u29 u30 u31 u35 u36 u37 u38 u39 u40 u41 u42 u43 u44 u45 u46 u47 u48 u49 u50 u51 u52 u53 u54 u55 u56 u57 u58 u59 u60 u61 u62 u63 u64 u65 u66 u67 u68 u69 u70 u71 u72 u73 u74 u75 u76 u77 u78 u79 u80 u81 u82 u83 u84 u85 u86 u87 u88 u89 u90 u91 u92 u93 u94 u95 u96 u97 u98 u99 u100 u101 u102 u103 u104 u105 u106 u107 u108 u109 u110 u111 u112 u113 u114 u115 u116 u117 u118 u119 u120 u121 u122 u123 u124 u125 u126 u127 u128 u129 u130 u131 u132 u133 u134 u135 u136 u137 u138 u139 u140 u141 u142 u143 u144 u145 u146 u147 u148 u149 u150 u151 u152 u153 u154 u155 u156 u157 u158 u159 u160 u161 u162 u163 u164 u165 u166 u167 u168 u169 u170 u171 u172 u173 u174 u175 u176 u177 u178 u179 u180 u181 u182 u183 u184 u185 u186 u187 u188 u189 u190 u191 u192 u193 u194 u195 u196 u197 u198 u199 u200 u201 u202 u203 u204 u205 u206 u207 u208 u209 u210 u211 u212 u213 u214 u215 u216 u217 u218 u219 u220 u221 u222 u223 u224 u225 u226 u227 u228 u229 u230 u231 u232 u233 u234 u235 u236 u237 u238 u239 u240 u241 u242 u243 u244 u245 u246 u247 u248 u249 u250 u251 u252 u253 u254 u255 u256 u257 u258 u259 u260 u261 u262 u263 u264 u265 u266 u267 u268 u269 u270 u271 u272 u273 u274 u275 u276 u277 u278 u279 u280 u281 u282 u283 u284 u285 u286 : Value) (w wB : World) (e1 : n1 = wts.length) (e2 : n2 = wws.length) (e3 : n3 = wls.length)
    (h2 : ts.length ≤ maxLen) (h4 : ms.length ≤ maxLen) (h5 : ps.length ≤ 1048576) (h6 : wts.length ≤ maxLen) (hw1 : ws.length = ts.length) (hl1 : ls.length = ts.length) (hw2 : wws.length = wts.length) (hl2 : wls.length = wts.length)
    (hT : StrsAt w ta ts) (hW : BoolsAt w wa ws) (hL : ListsAt w la ls) (hM : StrsAt w ma ms) (hP : StrsAt w pa ps) (hT2 : StrsAt w ta2 wts) (hW2 : BoolsAt w wa2 wws) (hL2 : ListsAt w la2 wls) (hB : Below wB.heap.size wB w)
    (hU : (FTo ts ws ls ts.length table = none ∧ lx = []) ∨ FTo ts ws ls ts.length table = some (b, lx)) (hU2 : FTo wts wws wls wts.length table = some (true, lx)) :
    Code.wp Try.prog (seqDrop 19 (Try.f4.body.getD .skip)) (bodyPost Try.prog Try.f4 fun e w' => e = .returned (.bool true) ∧ Below wB.heap.size wB w') ⟨#[.bool re, .bool ev, .bool aw, .slice aa al ac, .slice ta ts.length tc, .slice wa ws.length wcc, .slice la ls.length lc, .bool mw, .slice ma ms.length mc, .string table, .slice pa ps.length pc, u11, u12, u13, u14, u15, u16, u17, u18, u19, u20, u21, u22, u23, u24, u25, u26, u27, u28, u29, u30, u31, .slice ta2 n1 tc2, .slice wa2 n2 wc2, .slice la2 n3 lc2, u35, u36, u37, u38, u39, u40, u41, u42, u43, u44, u45, u46, u47, u48, u49, u50, u51, u52, u53, u54, u55, u56, u57, u58, u59, u60, u61, u62, u63, u64, u65, u66, u67, u68, u69, u70, u71, u72, u73, u74, u75, u76, u77, u78, u79, u80, u81, u82, u83, u84, u85, u86, u87, u88, u89, u90, u91, u92, u93, u94, u95, u96, u97, u98, u99, u100, u101, u102, u103, u104, u105, u106, u107, u108, u109, u110, u111, u112, u113, u114, u115, u116, u117, u118, u119, u120, u121, u122, u123, u124, u125, u126, u127, u128, u129, u130, u131, u132, u133, u134, u135, u136, u137, u138, u139, u140, u141, u142, u143, u144, u145, u146, u147, u148, u149, u150, u151, u152, u153, u154, u155, u156, u157, u158, u159, u160, u161, u162, u163, u164, u165, u166, u167, u168, u169, u170, u171, u172, u173, u174, u175, u176, u177, u178, u179, u180, u181, u182, u183, u184, u185, u186, u187, u188, u189, u190, u191, u192, u193, u194, u195, u196, u197, u198, u199, u200, u201, u202, u203, u204, u205, u206, u207, u208, u209, u210, u211, u212, u213, u214, u215, u216, u217, u218, u219, u220, u221, u222, u223, u224, u225, u226, u227, u228, u229, u230, u231, u232, u233, u234, u235, u236, u237, u238, u239, u240, u241, u242, u243, u244, u245, u246, u247, u248, u249, u250, u251, u252, u253, u254, u255, u256, u257, u258, u259, u260, u261, u262, u263, u264, u265, u266, u267, u268, u269, u270, u271, u272, u273, u274, u275, u276, u277, u278, u279, u280, u281, u282, u283, u284, u285, u286], []⟩ w := by
  subst e1 e2 e3
  exact tailB re ev aw mw b aa ma ta wa la pa ta2 wa2 la2 al ac mc tc wcc lc pc tc2 wc2 lc2 ts ms ps wts lx ws wws ls wls table u11 u12 u13 u14 u15 u16 u17 u18 u19 u20 u21 u22 u23 u24 u25 u26 u27 u28 u29 u30 u31 u35 u36 u37 u38 u39 u40 u41 u42 u43 u44 u45 u46 u47 u48 u49 u50 u51 u52 u53 u54 u55 u56 u57 u58 u59 u60 u61 u62 u63 u64 u65 u66 u67 u68 u69 u70 u71 u72 u73 u74 u75 u76 u77 u78 u79 u80 u81 u82 u83 u84 u85 u86 u87 u88 u89 u90 u91 u92 u93 u94 u95 u96 u97 u98 u99 u100 u101 u102 u103 u104 u105 u106 u107 u108 u109 u110 u111 u112 u113 u114 u115 u116 u117 u118 u119 u120 u121 u122 u123 u124 u125 u126 u127 u128 u129 u130 u131 u132 u133 u134 u135 u136 u137 u138 u139 u140 u141 u142 u143 u144 u145 u146 u147 u148 u149 u150 u151 u152 u153 u154 u155 u156 u157 u158 u159 u160 u161 u162 u163 u164 u165 u166 u167 u168 u169 u170 u171 u172 u173 u174 u175 u176 u177 u178 u179 u180 u181 u182 u183 u184 u185 u186 u187 u188 u189 u190 u191 u192 u193 u194 u195 u196 u197 u198 u199 u200 u201 u202 u203 u204 u205 u206 u207 u208 u209 u210 u211 u212 u213 u214 u215 u216 u217 u218 u219 u220 u221 u222 u223 u224 u225 u226 u227 u228 u229 u230 u231 u232 u233 u234 u235 u236 u237 u238 u239 u240 u241 u242 u243 u244 u245 u246 u247 u248 u249 u250 u251 u252 u253 u254 u255 u256 u257 u258 u259 u260 u261 u262 u263 u264 u265 u266 u267 u268 u269 u270 u271 u272 u273 u274 u275 u276 u277 u278 u279 u280 u281 u282 u283 u284 u285 u286 w wB h2 h4 h5 h6 hw1 hl1 hw2 hl2 hT hW hL hM hP hT2 hW2 hL2 hB hU hU2

set_option maxRecDepth 100000 in
set_option maxHeartbeats 4000000 in
theorem tailA2 (re ev aw mw fo : Bool) (aa ma ta wa la pa : Option Addr) (al ac mc tc wcc lc pc pos sz : Nat) (ts ms ps : List ByteArray) (ws : List Bool) (ls : List (List ByteArray)) (table : ByteArray)
    (u11 u12 u13 u14 u15 u16 u17 u18 u19 u20 u21 u22 u23 u24 u25 u26 u27 u32 u33 u34 u35 u36 u37 u38 u39 u40 u41 u42 u43 u44 u45 u46 u47 u48 u49 u50 u51 u52 u53 u54 u55 u56 u57 u58 u59 u60 u61 u62 u63 u64 u65 u66 u67 u68 u69 u70 u71 u72 u73 u74 u75 u76 u77 u78 u79 u80 u81 u82 u83 u84 u85 u86 u87 u88 u89 u90 u91 u92 u93 u94 u95 u96 u97 u98 u99 u100 u101 u102 u103 u104 u105 u106 u107 u108 u109 u110 u111 u112 u113 u114 u115 u116 u117 u118 u119 u120 u121 u122 u123 u124 u125 u126 u127 u128 u129 u130 u131 u132 u133 u134 u135 u136 u137 u138 u139 u140 u141 u142 u143 u144 u145 u146 u147 u148 u149 u150 u151 u152 u153 u154 u155 u156 u157 u158 u159 u160 u161 u162 u163 u164 u165 u166 u167 u168 u169 u170 u171 u172 u173 u174 u175 u176 u177 u178 u179 u180 u181 u182 u183 u184 u185 u186 u187 u188 u189 u190 u191 u192 u193 u194 u195 u196 u197 u198 u199 u200 u201 u202 u203 u204 u205 u206 u207 u208 u209 u210 u211 u212 u213 u214 u215 u216 u217 u218 u219 u220 u221 u222 u223 u224 u225 u226 u227 u228 u229 u230 u231 u232 u233 u234 u235 u236 u237 u238 u239 u240 u241 u242 u243 u244 u245 u246 u247 u248 u249 u250 u251 u252 u253 u254 u255 u256 u257 u258 u259 u260 u261 u262 u263 u264 u265 u266 u267 u268 u269 u270 u271 u272 u273 u274 u275 u276 u277 u278 u279 u280 u281 u282 u283 u284 u285 u286 : Value) (w wB : World)
    (h2 : ts.length ≤ 1048576) (h4 : ms.length ≤ maxLen) (h5 : ps.length ≤ 1048576) (hw1 : ws.length = ts.length) (hl1 : ls.length = ts.length)
    (hT : StrsAt w ta ts) (hW : BoolsAt w wa ws) (hL : ListsAt w la ls) (hM : StrsAt w ma ms) (hP : StrsAt w pa ps) (hB : Below wB.heap.size wB w)
    (hpl : Place ts table pos fo) (hso : SortedTo ts ts.length) (hszf : sz = ts.length + 1 - if fo then 1 else 0) :
    Code.wp Try.prog (seqDrop 15 (Try.f4.body.getD .skip)) (bodyPost Try.prog Try.f4 fun e w' => e = .returned (.bool true) ∧ Below wB.heap.size wB w') ⟨#[.bool re, .bool ev, .bool aw, .slice aa al ac, .slice ta ts.length tc, .slice wa ws.length wcc, .slice la ls.length lc, .bool mw, .slice ma ms.length mc, .string table, .slice pa ps.length pc, u11, u12, u13, u14, u15, u16, u17, u18, u19, u20, u21, u22, u23, u24, u25, u26, u27, .int .i64 (ts.length : Nat), .int .i64 (pos : Nat), .bool fo, .int .i64 (sz : Nat), u32, u33, u34, u35, u36, u37, u38, u39, u40, u41, u42, u43, u44, u45, u46, u47, u48, u49, u50, u51, u52, u53, u54, u55, u56, u57, u58, u59, u60, u61, u62, u63, u64, u65, u66, u67, u68, u69, u70, u71, u72, u73, u74, u75, u76, u77, u78, u79, u80, u81, u82, u83, u84, u85, u86, u87, u88, u89, u90, u91, u92, u93, u94, u95, u96, u97, u98, u99, u100, u101, u102, u103, u104, u105, u106, u107, u108, u109, u110, u111, u112, u113, u114, u115, u116, u117, u118, u119, u120, u121, u122, u123, u124, u125, u126, u127, u128, u129, u130, u131, u132, u133, u134, u135, u136, u137, u138, u139, u140, u141, u142, u143, u144, u145, u146, u147, u148, u149, u150, u151, u152, u153, u154, u155, u156, u157, u158, u159, u160, u161, u162, u163, u164, u165, u166, u167, u168, u169, u170, u171, u172, u173, u174, u175, u176, u177, u178, u179, u180, u181, u182, u183, u184, u185, u186, u187, u188, u189, u190, u191, u192, u193, u194, u195, u196, u197, u198, u199, u200, u201, u202, u203, u204, u205, u206, u207, u208, u209, u210, u211, u212, u213, u214, u215, u216, u217, u218, u219, u220, u221, u222, u223, u224, u225, u226, u227, u228, u229, u230, u231, u232, u233, u234, u235, u236, u237, u238, u239, u240, u241, u242, u243, u244, u245, u246, u247, u248, u249, u250, u251, u252, u253, u254, u255, u256, u257, u258, u259, u260, u261, u262, u263, u264, u265, u266, u267, u268, u269, u270, u271, u272, u273, u274, u275, u276, u277, u278, u279, u280, u281, u282, u283, u284, u285, u286], []⟩ w := by
  conv => arg 2; whnf
  obtain ⟨i9, hi9, y0, y1, y2⟩ := info_parts Try.info9
  obtain ⟨i4, hi4, m0, m1, m2⟩ := info_parts Try.info4
  obtain ⟨i22, hi22, z0, z1, z2⟩ := info_parts Try.info22
  have hple := hpl.le
  have hbsz : sz ≤ ts.length + 1 := by omega
  have by9 : i9.bytes * sz ≤ 281474976710656 := by rw [y2]; omega
  have by4 : i4.bytes * sz ≤ 281474976710656 := by rw [m2]; omega
  have by22 : i22.bytes * sz ≤ 281474976710656 := by rw [z2]; omega
  have hsm : sz ≤ maxLen := by unfold maxLen; omega
  obtain ⟨vs, hvs, hV⟩ := hL.vals
  replace hV : ValsAt w la vs := hV
  obtain ⟨f, hf⟩ : ∃ f, f = if fo then 1 else 0 := ⟨_, rfl⟩
  rw [← hf] at hszf
  have hpf : pos + f ≤ ts.length := by
    cases hfo : fo with
    | true => obtain ⟨hp, _⟩ := hpl.found_iff.1 hfo; rw [hfo] at hf; simp at hf; omega
    | false => rw [hfo] at hf; simp at hf; omega
  have hf1 : f ≤ 1 := by rw [hf]; split <;> omega
  have hvl : vs.length = ts.length := hvs.1.trans hl1
  -- what is laid beside the table
  obtain ⟨xa, xc, lx, hxv, hxs, hxf, hxU⟩ : ∃ (xa : Option Addr) (xc : Nat) (lx : List ByteArray), (fo = true → ∃ h : pos < vs.length, vs[pos] = .slice xa lx.length xc) ∧ SlcOf w (.slice xa lx.length xc) lx ∧ (fo = false → xa = none ∧ xc = 0 ∧ lx = []) ∧
      ((FTo ts ws ls ts.length table = none ∧ lx = []) ∨ FTo ts ws ls ts.length table = some (ws.getD pos false, lx)) := by
    have hold := old_at (ws := ws) (ls := ls) hpl hso
    cases hfo : fo with
    | true =>
      obtain ⟨hp, _⟩ := hpl.found_iff.1 hfo
      have hpv : pos < vs.length := by omega
      have hpl2 : pos < ls.length := by omega
      obtain ⟨a, c, e1, e2, e3⟩ := hvs.2 pos vs[pos] ls[pos] (List.getElem?_eq_getElem hpv) (List.getElem?_eq_getElem hpl2)
      refine ⟨a, c, ls[pos], fun _ => ⟨hpv, e1⟩, ⟨a, c, rfl, e2, e3⟩, fun h => by simp at h, .inr ?_⟩
      rw [hold, hfo, if_pos rfl]
      simp [List.getD, hpl2]
    | false =>
      refine ⟨none, 0, [], fun h => by simp at h, ⟨none, 0, rfl, fun k hk => by simp at hk, Nat.zero_le _⟩, fun _ => ⟨rfl, rfl, rfl⟩, .inl ⟨?_, rfl⟩⟩
      rw [hold, hfo]; rfl
  have HXU := hide hxU
  have HSO := hide hso
  have HPL := hide hpl
  have HW1 := hide hw1
  have HL1 := hide hl1
  have HVL := hide hvl
  have HXV := hide hxv
  have HXF := hide hxf
  have HVS := hide hvs
  have HF := hide hf
  have HSZ := hide hszf
  clear hszf hxU hso hpl hw1 hl1 hvl hxv hxf hvs hf
  go_wp2_with (first
    | (at_make; refine wpList_make_own _ rfl _ _ 22 rfl w.heap.size 9 i9 _ 1 Try.underlying22 hi9 y0 y1 .i64 .i64 _ sz rfl rfl rfl by9 hsm (Nat.le_refl _) ?_; intro w1 o1 gr1)
    | (at_make; refine wpList_make_own _ rfl _ _ 23 rfl w.heap.size 4 i4 _ 1 Try.underlying23 hi4 m0 m1 .i64 .i64 _ sz rfl rfl rfl by4 hsm gr1.size ?_; intro w2 o2 gr2)
    | (at_make; refine wpList_make_own _ rfl _ _ 24 rfl w.heap.size 22 i22 _ 1 Try.underlying24 hi22 z0 z1 .i64 .i64 _ sz rfl rfl rfl by22 hsm (Nat.le_trans gr1.size gr2.size) ?_; intro w3 o3 gr3))
  have hb1 : Below w.heap.size w w1 := (Below.refl _ _).grown gr1 (Nat.le_refl _) (by simp)
  have hb2 : Below w.heap.size w w2 := hb1.grown gr2 gr1.size (by simp)
  have hb3 : Below w.heap.size w w3 := hb2.grown gr3 (Nat.le_trans gr1.size gr2.size) (by simp)
  have k1 : w.heap.size < w1.heap.size := (o1.lt _ rfl).2
  have k2 : w1.heap.size < w2.heap.size := (o2.lt _ rfl).2
  have s1 := gr1.size
  have s2 := gr2.size
  have hThree : Three w3 w.heap.size w.heap.size w1.heap.size w2.heap.size sz 0 [] [] [] := ⟨(o1.kept gr2 (.inr (by simp [Value.ownBlock]))).kept gr3 (.inr (by simp [Value.ownBlock])), o2.kept gr3 (.inr (by simp [Value.ownBlock])), o3⟩
  have hb0 := Nat.le_refl w.heap.size
  obtain ⟨g1, hG1⟩ : ∃ g, g = w.heap.size := ⟨_, rfl⟩
  obtain ⟨g2, hG2⟩ : ∃ g, g = w1.heap.size := ⟨_, rfl⟩
  obtain ⟨g3, hG3⟩ : ∃ g, g = w2.heap.size := ⟨_, rfl⟩
  have hg1 : w.heap.size ≤ g1 := by omega
  have hg2 : w.heap.size ≤ g2 := by omega
  have hg3 : w.heap.size ≤ g3 := by omega
  have n12 : g1 ≠ g2 := by omega
  have n21 : g2 ≠ g1 := by omega
  have n13 : g1 ≠ g3 := by omega
  have n31 : g3 ≠ g1 := by omega
  have n23 : g2 ≠ g3 := by omega
  have n32 : g3 ≠ g2 := by omega
  replace hThree : Three w3 w.heap.size g1 g2 g3 sz 0 [] [] [] := by rw [hG1, hG2, hG3]; exact hThree
  rw [← hG2, ← hG3]
  conv =>
    arg 4
    rw [← hG1]
  clear hG1 hG2 hG3 s1 s2 k1 k2 o1 o2 o3 gr1 gr2 gr3 hb1 hb2 hb0
  have HM := hide hM
  have HP := hide hP
  have HL := hide hL
  clear hM hP hL
  go_loopw [32, 33, 34, 35] (fun v32 v33 v34 i wr => ∃ k L : Nat, k ≤ ts.length + 1 ∧ i = .int .i64 k ∧ v32 = .slice (some ⟨g1, 0, none⟩) L sz ∧ v33 = .slice (some ⟨g2, 0, none⟩) L sz ∧ v34 = .slice (some ⟨g3, 0, none⟩) L sz ∧
    Three wr w.heap.size g1 g2 g3 sz L (acc ts table pos f k) (acc ws true pos f k) (acc vs (.slice xa lx.length xc) pos f k) ∧ Below w.heap.size w wr) (fun _ _ _ i _ => ts.length + 1 - (intOf i).toNat)
  case atStart => exact ⟨0, 0, Nat.zero_le _, rfl, rfl, rfl, rfl, hThree.done (acc_zero _ _ _ _) (acc_zero _ _ _ _) (acc_zero _ _ _ _), hb3⟩
  case round =>
    clear hThree hb3
    obtain ⟨k, L, hk, rfl, rfl, rfl, rfl, hTh, hb⟩ := hrel
    have hacc : ∀ j, j ≤ ts.length + 1 → (acc ts table pos f j).length ≤ sz := fun j hj => by rw [unhide HSZ]; exact acc_len_le _ _ _ _ _ hpf hj
    have hLl : L = (acc ts table pos f k).length := by have := hTh.1.1; simpa using this.symm
    obtain ⟨xs, hxs'⟩ : ∃ xs, xs = acc ts table pos f k := ⟨_, rfl⟩
    obtain ⟨ys, hys'⟩ : ∃ ys, ys = acc ws true pos f k := ⟨_, rfl⟩
    obtain ⟨zs, hzs'⟩ : ∃ zs, zs = acc vs (.slice xa lx.length xc) pos f k := ⟨_, rfl⟩
    rw [← hxs', ← hys', ← hzs'] at hTh
    rw [← hxs'] at hLl
    have XS := hide hxs'
    have YS := hide hys'
    have ZS := hide hzs'
    clear hxs' hys' hzs'
    by_cases hlast : k = ts.length + 1
    · subst hlast
      have r1 : xs = ins ts table pos f := (unhide XS).trans (acc_final _ _ _ _ hpf)
      have r2 : ys = ins ws true pos f := by rw [unhide YS, ← unhide HW1]; exact acc_final _ _ _ _ (by rw [unhide HW1]; exact hpf)
      have r3 : zs = ins vs (.slice xa lx.length xc) pos f := by rw [unhide ZS, ← unhide HVL]; exact acc_final _ _ _ _ (by rw [unhide HVL]; exact hpf)
      rw [r1, r2, r3] at hTh
      rw [r1] at hLl
      have hT2 := own_strs hTh.1
      have hW2 := own_bools hTh.2.1
      have hL2 := own_lists hTh.2.2 (((unhide HVS).below hb).ins (hxs.below hb) pos f (by rw [unhide HVL]; exact hpf))
      have q1 : (ins ts table pos f).length = ts.length + 1 - f := ins_len _ _ _ _ hpf
      have q2 : (ins ws true pos f).length = ts.length + 1 - f := by rw [ins_len _ _ _ _ (by rw [unhide HW1]; exact hpf), unhide HW1]
      have q3 : (ins ls lx pos f).length = ts.length + 1 - f := by rw [ins_len _ _ _ _ (by rw [unhide HL1]; exact hpf), unhide HL1]
      have hU2 := new_at (unhide HPL) (unhide HSO) (unhide HW1) (unhide HL1) lx f (unhide HF)
      go_upto_region 53 with (go_at_K; apply_assumption; exact tailB_len re ev aw mw (ws.getD pos false) aa ma ta wa la pa (some ⟨g1, 0, none⟩) (some ⟨g2, 0, none⟩) (some ⟨g3, 0, none⟩) al ac mc tc wcc lc pc sz sz sz L L L ts ms ps (ins ts table pos f) lx ws (ins ws true pos f) ls (ins ls lx pos f) table _ _ _ _ _ _ _ _ _ _ _ _ _ _ _ _ _ _ _ _ _ _ _ _ _ _ _ _ _ _ _ _ _ _ _ _ _ _ _ _ _ _ _ _ _ _ _ _ _ _ _ _ _ _ _ _ _ _ _ _ _ _ _ _ _ _ _ _ _ _ _ _ _ _ _ _ _ _ _ _ _ _ _ _ _ _ _ _ _ _ _ _ _ _ _ _ _ _ _ _ _ _ _ _ _ _ _ _ _ _ _ _ _ _ _ _ _ _ _ _ _ _ _ _ _ _ _ _ _ _ _ _ _ _ _ _ _ _ _ _ _ _ _ _ _ _ _ _ _ _ _ _ _ _ _ _ _ _ _ _ _ _ _ _ _ _ _ _ _ _ _ _ _ _ _ _ _ _ _ _ _ _ _ _ _ _ _ _ _ _ _ _ _ _ _ _ _ _ _ _ _ _ _ _ _ _ _ _ _ _ _ _ _ _ _ _ _ _ _ _ _ _ _ _ _ _ _ _ _ _ _ _ _ _ _ _ _ _ _ _ _ _ _ _ _ _ _ _ _ _ _ _ _ _ _ _ _ _ _ _ _ _ _ _ _ _ _ _ _ _ _ _ _ wr wB (by omega) (by omega) (by omega) (by unfold maxLen; omega) h4 h5 (by unfold maxLen; omega) (unhide HW1) (unhide HL1) (by omega) (by omega) (hT.below hb) (hW.below hb) ((unhide HL).below hb) ((unhide HM).below hb) ((unhide HP).below hb) hT2 hW2 hL2 (hB.trans (hb.mono hB.size)) (unhide HXU) hU2)
    have hkn : (k : Int) ≤ (ts.length : Int) := by omega
    by_cases hkp : k = pos
    · subst hkp
      cases fo with
      | true =>
        obtain ⟨hkv, hv⟩ := unhide HXV rfl
        have hlt : k < ts.length := by have := unhide HVL; omega
        have hkl : k < ls.length := by have := unhide HL1; omega
        have hf' : f = 1 := unhide HF
        have e1 : acc ts table k f (k + 1) = xs ++ [table] := by rw [unhide XS, hf']; exact acc_found _ _ _
        have e2 : acc ws true k f (k + 1) = ys ++ [true] := by rw [unhide YS, hf']; exact acc_found _ _ _
        have e3 : acc vs (.slice xa lx.length xc) k f (k + 1) = zs ++ [.slice xa lx.length xc] := by rw [unhide ZS, hf']; exact acc_found _ _ _
        have hL1 : L + 1 ≤ sz := by have := hacc (k + 1) (by omega); rw [e1] at this; simp at this; omega
        have E1 := hide e1
        have E2 := hide e2
        have E3 := hide e3
        obtain ⟨bv, ov, rfl, -⟩ := hV k hkv
        clear e1 e2 e3 hacc hLl HXV HXF HF HSZ HVL HVS HPL HSO HXU HM HP HL HW1 HL1 XS YS ZS hf'
        go_wp2_with (first
          | (at_builtin; refine wpList_append_fits _ rfl (.tmp 166) (.tmp 168) 22 rfl w.heap.size 9 i9 1 Try.underlying22 hi9 y1 g1 L sz (xs.map Value.string) rfl (hTh.1.alloc _) ⟨wr.heap.size, 0, none⟩ 1 1 [.string table] rfl rfl (World.news_of_block (heap_alloc_new wr _)) (one_str _) hL1 ?_; intro x11 p11 q11; have b11 : Below w.heap.size w x11 := (hb.alloc hb.size _).grown q11 (by have := hb.size; simp; omega) (by intro k' hk'; cases hk'; exact hg1))
          | (at_builtin; refine wpList_append_fits _ rfl (.tmp 170) (.tmp 171) 23 rfl w.heap.size 4 i4 1 Try.underlying23 hi4 m1 g2 L sz (ys.map Value.bool) rfl ((own_kept_ne (hTh.2.1.alloc _) q11 n21).alloc _) ⟨x11.heap.size, 0, none⟩ 1 1 [.bool true] rfl rfl (World.news_of_block (heap_alloc_new x11 _)) (one_bool _) hL1 ?_; intro x12 p12 q12; have b12 : Below w.heap.size w x12 := (b11.alloc b11.size _).grown q12 (by have := b11.size; simp; omega) (by intro k' hk'; cases hk'; exact hg2); have d13 := (hV.below b12).cell k hkv hv)
          | (at_builtin; refine wpList_append_fits _ rfl (.tmp 173) (.tmp 178) 24 rfl w.heap.size 22 i22 1 Try.underlying24 hi22 z1 g3 L sz zs rfl ((own_kept_ne ((own_kept_ne (hTh.2.2.alloc _) q11 n31).alloc _) q12 n32).alloc _) ⟨x12.heap.size, 0, none⟩ 1 1 [.slice xa lx.length xc] rfl rfl (World.news_of_block (heap_alloc_new x12 _)) (one_slc xa lx.length xc) hL1 ?_; intro x13 p13 q13; have b13 : Below w.heap.size w x13 := (b12.alloc b12.size _).grown q13 (by have := b12.size; simp; omega) (by intro k' hk'; cases hk'; exact hg3); have t1 := Three.make ((own_kept_ne (p11.alloc _) q12 n12).alloc _) (p12.alloc _) p13 q13 n13 n23))
        clear hi9 y0 y1 hi4 m0 m1 hi22 z0 z1
        go_roundw
        case rel => exact ⟨k + 1, L + 1, by omega, by go_num, rfl, rfl, rfl, t1.done (unhide E1) (unhide E2) (unhide E3), b13⟩
        case measure => simp [intOf]; omega
      | false =>
        obtain ⟨rfl, rfl, rfl⟩ := unhide HXF rfl
        have hf' : f = 0 := unhide HF
        by_cases hlt : k < ts.length
        · have hkw : k < ws.length := by have := unhide HW1; omega
          have hkv : k < vs.length := by have := unhide HVL; omega
          have hkl : k < ls.length := by have := unhide HL1; omega
          obtain ⟨va, vc, hv, -, -⟩ := (unhide HVS).2 k vs[k] ls[k] (List.getElem?_eq_getElem hkv) (List.getElem?_eq_getElem hkl)
          have e1 : acc ts table k f (k + 1) = xs ++ [table] ++ [ts[k]] := by rw [unhide XS, hf']; exact acc_new _ _ _ hlt
          have e2 : acc ws true k f (k + 1) = ys ++ [true] ++ [ws[k]] := by rw [unhide YS, hf']; exact acc_new _ _ _ hkw
          have e3 : acc vs (.slice none ([] : List ByteArray).length 0) k f (k + 1) = zs ++ [.slice none 0 0] ++ [.slice va ls[k].length vc] := by rw [unhide ZS, hf', ← hv]; exact acc_new _ _ _ hkv
          have hL2 : L + 1 + 1 ≤ sz := by have := hacc (k + 1) (by omega); rw [e1] at this; simp at this; omega
          have hL1 : L + 1 ≤ sz := by omega
          have E1 := hide e1
          have E2 := hide e2
          have E3 := hide e3
          have hlt' : (k : Int) < (ts.length : Int) := by omega
          obtain ⟨bt, ot, rfl, -⟩ := hT k hlt
          obtain ⟨bw, ow, rfl, -⟩ := hW k hkw
          obtain ⟨bv, ov, rfl, -⟩ := hV k hkv
          clear e1 e2 e3 hacc hLl HXV HXF HF HSZ HVL HVS HPL HSO HXU HM HP HL HW1 HL1 XS YS ZS hf'
          go_wp2_with (first
            | (at_builtin; refine wpList_append_fits _ rfl (.tmp 180) (.tmp 182) 22 rfl w.heap.size 9 i9 1 Try.underlying22 hi9 y1 g1 L sz (xs.map Value.string) rfl (hTh.1.alloc _) ⟨wr.heap.size, 0, none⟩ 1 1 [.string table] rfl rfl (World.news_of_block (heap_alloc_new wr _)) (one_str _) hL1 ?_; intro x11 p11 q11; have b11 : Below w.heap.size w x11 := (hb.alloc hb.size _).grown q11 (by have := hb.size; simp; omega) (by intro k' hk'; cases hk'; exact hg1))
            | (at_builtin; refine wpList_append_fits _ rfl (.tmp 184) (.tmp 185) 23 rfl w.heap.size 4 i4 1 Try.underlying23 hi4 m1 g2 L sz (ys.map Value.bool) rfl ((own_kept_ne (hTh.2.1.alloc _) q11 n21).alloc _) ⟨x11.heap.size, 0, none⟩ 1 1 [.bool true] rfl rfl (World.news_of_block (heap_alloc_new x11 _)) (one_bool _) hL1 ?_; intro x12 p12 q12; have b12 : Below w.heap.size w x12 := (b11.alloc b11.size _).grown q12 (by have := b11.size; simp; omega) (by intro k' hk'; cases hk'; exact hg2))
            | (at_builtin; refine wpList_append_fits _ rfl (.tmp 187) (.tmp 188) 24 rfl w.heap.size 22 i22 1 Try.underlying24 hi22 z1 g3 L sz zs rfl ((own_kept_ne ((own_kept_ne (hTh.2.2.alloc _) q11 n31).alloc _) q12 n32).alloc _) ⟨x12.heap.size, 0, none⟩ 1 1 [.slice none 0 0] rfl rfl (World.news_of_block (heap_alloc_new x12 _)) (one_slc none 0 0) hL1 ?_; intro x13 p13 q13; have b13 : Below w.heap.size w x13 := (b12.alloc b12.size _).grown q13 (by have := b12.size; simp; omega) (by intro k' hk'; cases hk'; exact hg3); have t1 := Three.make ((own_kept_ne (p11.alloc _) q12 n12).alloc _) (p12.alloc _) p13 q13 n13 n23; have d14 := (hT.below b13).cell k hlt)
            | (at_builtin; refine wpList_append_fits _ rfl (.tmp 193) (.tmp 198) 22 rfl w.heap.size 9 i9 1 Try.underlying22 hi9 y1 g1 (L + 1) sz ((xs ++ [table]).map Value.string) rfl (t1.1.alloc _) ⟨x13.heap.size, 0, none⟩ 1 1 [.string ts[k]] rfl rfl (World.news_of_block (heap_alloc_new x13 _)) (one_str _) hL2 ?_; intro x21 p21 q21; have b21 : Below w.heap.size w x21 := (b13.alloc b13.size _).grown q21 (by have := b13.size; simp; omega) (by intro k' hk'; cases hk'; exact hg1); have d22 := (hW.below b21).cell k hkw)
            | (at_builtin; refine wpList_append_fits _ rfl (.tmp 200) (.tmp 205) 23 rfl w.heap.size 4 i4 1 Try.underlying23 hi4 m1 g2 (L + 1) sz ((ys ++ [true]).map Value.bool) rfl ((own_kept_ne (t1.2.1.alloc _) q21 n21).alloc _) ⟨x21.heap.size, 0, none⟩ 1 1 [.bool ws[k]] rfl rfl (World.news_of_block (heap_alloc_new x21 _)) (one_bool _) hL2 ?_; intro x22 p22 q22; have b22 : Below w.heap.size w x22 := (b21.alloc b21.size _).grown q22 (by have := b21.size; simp; omega) (by intro k' hk'; cases hk'; exact hg2); have d23 := (hV.below b22).cell k hkv hv)
            | (at_builtin; refine wpList_append_fits _ rfl (.tmp 207) (.tmp 212) 24 rfl w.heap.size 22 i22 1 Try.underlying24 hi22 z1 g3 (L + 1) sz (zs ++ [.slice none 0 0]) rfl ((own_kept_ne ((own_kept_ne (t1.2.2.alloc _) q21 n31).alloc _) q22 n32).alloc _) ⟨x22.heap.size, 0, none⟩ 1 1 [.slice va ls[k].length vc] rfl rfl (World.news_of_block (heap_alloc_new x22 _)) (one_slc va ls[k].length vc) hL2 ?_; intro x23 p23 q23; have b23 : Below w.heap.size w x23 := (b22.alloc b22.size _).grown q23 (by have := b22.size; simp; omega) (by intro k' hk'; cases hk'; exact hg3); have t2 := Three.make ((own_kept_ne (p21.alloc _) q22 n12).alloc _) (p22.alloc _) p23 q23 n13 n23))
          clear hi9 y0 y1 hi4 m0 m1 hi22 z0 z1
          go_roundw
          case rel => exact ⟨k + 1, L + 1 + 1, by omega, by go_num, rfl, rfl, rfl, t2.done (unhide E1) (unhide E2) (unhide E3), b23⟩
          case measure => simp [intOf]; omega
        · have hkt : k = ts.length := by omega
          have hkt' : ¬ ((k : Int) < (ts.length : Int)) := by omega
          have e1 : acc ts table k f (k + 1) = xs ++ [table] := by rw [unhide XS, hf', hkt]; exact acc_new_end _ _
          have e2 : acc ws true k f (k + 1) = ys ++ [true] := by rw [unhide YS, hf', hkt, ← unhide HW1]; exact acc_new_end _ _
          have e3 : acc vs (.slice none ([] : List ByteArray).length 0) k f (k + 1) = zs ++ [.slice none 0 0] := by rw [unhide ZS, hf', hkt, ← unhide HVL]; exact acc_new_end _ _
          have hL1 : L + 1 ≤ sz := by have := hacc (k + 1) (by omega); rw [e1] at this; simp at this; omega
          have E1 := hide e1
          have E2 := hide e2
          have E3 := hide e3
          clear e1 e2 e3 hacc hLl HXV HXF HF HSZ HVL HVS HPL HSO HXU HM HP HL HW1 HL1 XS YS ZS hf' hkt
          go_wp2_with (first
            | (at_builtin; refine wpList_append_fits _ rfl (.tmp 180) (.tmp 182) 22 rfl w.heap.size 9 i9 1 Try.underlying22 hi9 y1 g1 L sz (xs.map Value.string) rfl (hTh.1.alloc _) ⟨wr.heap.size, 0, none⟩ 1 1 [.string table] rfl rfl (World.news_of_block (heap_alloc_new wr _)) (one_str _) hL1 ?_; intro x11 p11 q11; have b11 : Below w.heap.size w x11 := (hb.alloc hb.size _).grown q11 (by have := hb.size; simp; omega) (by intro k' hk'; cases hk'; exact hg1))
            | (at_builtin; refine wpList_append_fits _ rfl (.tmp 184) (.tmp 185) 23 rfl w.heap.size 4 i4 1 Try.underlying23 hi4 m1 g2 L sz (ys.map Value.bool) rfl ((own_kept_ne (hTh.2.1.alloc _) q11 n21).alloc _) ⟨x11.heap.size, 0, none⟩ 1 1 [.bool true] rfl rfl (World.news_of_block (heap_alloc_new x11 _)) (one_bool _) hL1 ?_; intro x12 p12 q12; have b12 : Below w.heap.size w x12 := (b11.alloc b11.size _).grown q12 (by have := b11.size; simp; omega) (by intro k' hk'; cases hk'; exact hg2))
            | (at_builtin; refine wpList_append_fits _ rfl (.tmp 187) (.tmp 188) 24 rfl w.heap.size 22 i22 1 Try.underlying24 hi22 z1 g3 L sz zs rfl ((own_kept_ne ((own_kept_ne (hTh.2.2.alloc _) q11 n31).alloc _) q12 n32).alloc _) ⟨x12.heap.size, 0, none⟩ 1 1 [.slice none 0 0] rfl rfl (World.news_of_block (heap_alloc_new x12 _)) (one_slc none 0 0) hL1 ?_; intro x13 p13 q13; have b13 : Below w.heap.size w x13 := (b12.alloc b12.size _).grown q13 (by have := b12.size; simp; omega) (by intro k' hk'; cases hk'; exact hg3); have t1 := Three.make ((own_kept_ne (p11.alloc _) q12 n12).alloc _) (p12.alloc _) p13 q13 n13 n23))
          clear hi9 y0 y1 hi4 m0 m1 hi22 z0 z1
          go_roundw
          case rel => exact ⟨k + 1, L + 1, by omega, by go_num, rfl, rfl, rfl, t1.done (unhide E1) (unhide E2) (unhide E3), b13⟩
          case measure => simp [intOf]; omega
    · have hkp' : ¬ ((k : Int) = (pos : Int)) := by omega
      by_cases hlt : k < ts.length
      · have hkw : k < ws.length := by have := unhide HW1; omega
        have hkv : k < vs.length := by have := unhide HVL; omega
        have hkl : k < ls.length := by have := unhide HL1; omega
        obtain ⟨va, vc, hv, -, -⟩ := (unhide HVS).2 k vs[k] ls[k] (List.getElem?_eq_getElem hkv) (List.getElem?_eq_getElem hkl)
        have e1 : acc ts table pos f (k + 1) = xs ++ [ts[k]] := by
          rw [unhide XS]
          rcases Nat.lt_or_gt_of_ne hkp with h | h
          · exact acc_lt _ _ _ _ _ h hlt
          · exact acc_gt _ _ _ _ _ h hf1 hlt
        have e2 : acc ws true pos f (k + 1) = ys ++ [ws[k]] := by
          rw [unhide YS]
          rcases Nat.lt_or_gt_of_ne hkp with h | h
          · exact acc_lt _ _ _ _ _ h hkw
          · exact acc_gt _ _ _ _ _ h hf1 hkw
        have e3 : acc vs (.slice xa lx.length xc) pos f (k + 1) = zs ++ [.slice va ls[k].length vc] := by
          rw [unhide ZS, ← hv]
          rcases Nat.lt_or_gt_of_ne hkp with h | h
          · exact acc_lt _ _ _ _ _ h hkv
          · exact acc_gt _ _ _ _ _ h hf1 hkv
        have hL1 : L + 1 ≤ sz := by have := hacc (k + 1) (by omega); rw [e1] at this; simp at this; omega
        have E1 := hide e1
        have E2 := hide e2
        have E3 := hide e3
        have hlt' : (k : Int) < (ts.length : Int) := by omega
        obtain ⟨bt, ot, rfl, -⟩ := hT k hlt
        obtain ⟨bw, ow, rfl, -⟩ := hW k hkw
        obtain ⟨bv, ov, rfl, -⟩ := hV k hkv
        have c1 := (hT.below hb).cell k hlt
        clear e1 e2 e3 hacc hLl HXV HXF HF HSZ HVL HVS HPL HSO HXU HM HP HL HW1 HL1 XS YS ZS
        go_wp2_with (first
          | (at_builtin; refine wpList_append_fits _ rfl (.tmp 193) (.tmp 198) 22 rfl w.heap.size 9 i9 1 Try.underlying22 hi9 y1 g1 L sz (xs.map Value.string) rfl (hTh.1.alloc _) ⟨wr.heap.size, 0, none⟩ 1 1 [.string ts[k]] rfl rfl (World.news_of_block (heap_alloc_new wr _)) (one_str _) hL1 ?_; intro x11 p11 q11; have b11 : Below w.heap.size w x11 := (hb.alloc hb.size _).grown q11 (by have := hb.size; simp; omega) (by intro k' hk'; cases hk'; exact hg1); have d12 := (hW.below b11).cell k hkw)
          | (at_builtin; refine wpList_append_fits _ rfl (.tmp 200) (.tmp 205) 23 rfl w.heap.size 4 i4 1 Try.underlying23 hi4 m1 g2 L sz (ys.map Value.bool) rfl ((own_kept_ne (hTh.2.1.alloc _) q11 n21).alloc _) ⟨x11.heap.size, 0, none⟩ 1 1 [.bool ws[k]] rfl rfl (World.news_of_block (heap_alloc_new x11 _)) (one_bool _) hL1 ?_; intro x12 p12 q12; have b12 : Below w.heap.size w x12 := (b11.alloc b11.size _).grown q12 (by have := b11.size; simp; omega) (by intro k' hk'; cases hk'; exact hg2); have d13 := (hV.below b12).cell k hkv hv)
          | (at_builtin; refine wpList_append_fits _ rfl (.tmp 207) (.tmp 212) 24 rfl w.heap.size 22 i22 1 Try.underlying24 hi22 z1 g3 L sz zs rfl ((own_kept_ne ((own_kept_ne (hTh.2.2.alloc _) q11 n31).alloc _) q12 n32).alloc _) ⟨x12.heap.size, 0, none⟩ 1 1 [.slice va ls[k].length vc] rfl rfl (World.news_of_block (heap_alloc_new x12 _)) (one_slc va ls[k].length vc) hL1 ?_; intro x13 p13 q13; have b13 : Below w.heap.size w x13 := (b12.alloc b12.size _).grown q13 (by have := b12.size; simp; omega) (by intro k' hk'; cases hk'; exact hg3); have t1 := Three.make ((own_kept_ne (p11.alloc _) q12 n12).alloc _) (p12.alloc _) p13 q13 n13 n23))
        clear hi9 y0 y1 hi4 m0 m1 hi22 z0 z1
        go_roundw
        case rel => exact ⟨k + 1, L + 1, by omega, by go_num, rfl, rfl, rfl, t1.done (unhide E1) (unhide E2) (unhide E3), b13⟩
        case measure => simp [intOf]; omega
      · have hkt : k = ts.length := by omega
        have hkt' : ¬ ((k : Int) < (ts.length : Int)) := by omega
        have hpk : pos < ts.length := by omega
        have e1 : acc ts table pos f (k + 1) = xs := by rw [unhide XS, hkt]; exact acc_end _ _ _ _ hpk hpf
        have e2 : acc ws true pos f (k + 1) = ys := by rw [unhide YS, hkt, ← unhide HW1]; exact acc_end _ _ _ _ (by rw [unhide HW1]; exact hpk) (by rw [unhide HW1]; exact hpf)
        have e3 : acc vs (.slice xa lx.length xc) pos f (k + 1) = zs := by rw [unhide ZS, hkt, ← unhide HVL]; exact acc_end _ _ _ _ (by rw [unhide HVL]; exact hpk) (by rw [unhide HVL]; exact hpf)
        have E1 := hide e1
        have E2 := hide e2
        have E3 := hide e3
        clear e1 e2 e3 hacc hLl HXV HXF HF HSZ HVL HVS HPL HSO HXU HM HP HL HW1 HL1 XS YS ZS hkt hi9 y0 y1 hi4 m0 m1 hi22 z0 z1
        go_wp2
        go_roundw
        case rel => exact ⟨k + 1, L, by omega, by go_num, rfl, rfl, rfl, hTh.done (unhide E1) (unhide E2) (unhide E3), hb⟩
        case measure => simp [intOf]; omega
end Go.Proofs.Qxb6614881a
