import Derived.Test.Qxb6614903aParts
namespace Go.Proofs.Qxb6614903a
open Go.RowKit

theorem Try.info5 : (Try.prog.info? 5).map (fun i => (i.zero, i.size, i.bytes)) = some (some (.int .u8 0), 1, 1) := by kernel_rfl
abbrev opn : ByteArray := ⟨#[35, 32, 98, 97, 116, 111, 110, 100, 32, 115, 116, 97, 116, 101, 32, 102, 105, 108, 101, 59, 32, 105, 116, 115, 32, 108, 97, 115, 116, 32, 108, 105, 110, 101, 32, 105, 115, 32, 34, 46, 46, 46, 34, 10]⟩
abbrev cls : ByteArray := ⟨#[46, 46, 46, 10]⟩
/-- The text of a file that holds these pieces. -/
def text (ps : List (List Int)) : List Int := sb opn ++ ps.flatten ++ sb cls
theorem sb_opn : (sb opn).length = 44 := by rw [sb_len]; rfl
theorem sb_cls : (sb cls).length = 4 := by rw [sb_len]; rfl
theorem text_len (ps : List (List Int)) : (text ps).length = 48 + sz ps := by
  unfold text sz
  rw [List.length_append, List.length_append, sb_opn, sb_cls]
  omega
theorem strCells_sb (s : ByteArray) : Lib.strCells s = (sb s).map (Value.int .u8) := by
  unfold Lib.strCells sb
  rw [List.map_map]
  rfl
theorem u8s_one (bs : List Int) : ∀ u ∈ bs.map (Value.int .u8), u.oneCell' = true := ints_oneCell .u8 bs
theorem BytesAt.news {w : World} {ao : Option Addr} {bs : List Int} (h : BytesAt w ao bs) : ∀ ad, ao = some ad → ∀ j u, (bs.map (Value.int .u8))[j]? = some u → w.cell? (ad.add j) = some u := by
  intro ad ha j u hu
  rw [List.getElem?_map] at hu
  obtain ⟨x, hx, rfl⟩ := Option.map_eq_some_iff.1 hu
  obtain ⟨hj, rfl⟩ := List.getElem?_eq_some_iff.1 hx
  obtain ⟨b, off, h1, h2⟩ := h j hj
  obtain rfl := Option.some.inj (ha.symm.trans h1)
  rw [Addr.add_lit]; exact h2
theorem own_bytes {w : World} {B g n c : Nat} {bs : List Int} (h : w.ownsRow B 5 1 (.slice (some ⟨g, 0, none⟩) n c) n (bs.map (Value.int .u8))) : BytesAt w (some ⟨g, 0, none⟩) bs := by
  intro k hk
  refine ⟨g, 0, rfl, ?_⟩
  have := h.cells (g := g) rfl k (.int .u8 bs[k]) (by rw [List.getElem?_map, List.getElem?_eq_getElem hk]; rfl)
  rwa [Addr.add_lit] at this

theorem BytesAt.none_len {w : World} {ao : Option Addr} {bs : List Int} (h : BytesAt w ao bs) (e : ao = none) : bs.length = 0 := by
  rcases Nat.eq_zero_or_pos bs.length with h0 | h0
  · exact h0
  · obtain ⟨b, off, h1, -⟩ := h 0 h0
    rw [e] at h1
    cases h1

/-- The opening and the first k pieces. -/
def pre (ps : List (List Int)) (k : Nat) : List Int := sb opn ++ (ps.take k).flatten
theorem pre_zero (ps : List (List Int)) : pre ps 0 = sb opn := by unfold pre; rw [List.take_zero, List.flatten_nil, List.append_nil]
theorem pre_succ (ps : List (List Int)) (k : Nat) (hk : k < ps.length) : pre ps (k + 1) = pre ps k ++ ps[k] := by
  unfold pre
  rw [List.take_succ_eq_append_getElem hk]
  simp only [List.flatten_append, List.flatten_cons, List.flatten_nil, List.append_nil, List.append_assoc]
theorem pre_all (ps : List (List Int)) : pre ps ps.length ++ sb cls = text ps := by
  unfold pre text
  rw [List.take_length]

set_option maxRecDepth 100000 in
set_option maxHeartbeats 2000000 in
theorem framed_any (ao : Option Addr) (cap : Nat) (ps : List (List Int)) (w : World) (hl : ps.length ≤ 4194304) (hs : sz ps ≤ 4194304) (h : PartsAt w ao ps) :
    Calls Try.prog 62 #[.slice ao ps.length cap] w fun e w' => (∃ g, e = .returned (.slice (some ⟨g, 0, none⟩) (48 + sz ps) (48 + sz ps)) ∧ BytesAt w' (some ⟨g, 0, none⟩) (text ps)) ∧ Below w.heap.size w w' := by
  obtain ⟨i5, hi5, y0, y1, y2⟩ := info_parts Try.info5
  have by5 : i5.bytes * (48 + sz ps) ≤ 281474976710656 := by rw [y2]; omega
  go_enter Try.func62, Try.ntmps62
  go_wp2_with fail
  go_loop [3, 5, 11] (fun t _ i => ∃ (k n : Nat), k ≤ ps.length ∧ i = .int .i64 k ∧ t = .int .i64 n ∧ n = 48 + tot ps k) (fun _ _ i => ps.length - (intOf i).toNat)
  case atStart => exact ⟨0, 48, Nat.zero_le _, rfl, rfl, by rw [tot_zero]⟩
  case round =>
    obtain ⟨k, n, hk, rfl, rfl, hn⟩ := hrel
    have HN := hide hn
    have hn2 : n ≤ 48 + sz ps := by have := tot_le ps k; omega
    clear hn
    by_cases hlt : k < ps.length
    · obtain ⟨b, off, a, c, rfl, c1, -, -, hsl⟩ := h k hlt
      have hpk := part_le ps k hlt
      have hlk : ps[k].length ≤ 4194304 := by omega
      clear hpk hsl
      clear h
      go_wp2
      go_round
      case rel => exact ⟨k + 1, n + ps[k].length, hlt, by go_num, by go_num, by rw [tot_succ ps k hlt, unhide HN]; omega⟩
      case measure => simp [intOf]; omega
    · have e : k = ps.length := by omega
      have hn3 : n = 48 + sz ps := by have := unhide HN; rw [e, tot_all] at this; exact this
      subst hn3
      clear HN e
      go_upto_region 8 with (first
        | (at_make; refine wpList_make_own _ rfl _ _ 22 rfl w.heap.size 5 i5 _ 1 Try.underlying22 hi5 y0 y1 .i64 .i64 _ (48 + sz ps) rfl rfl rfl by5 (by unfold maxLen; omega) (Nat.le_refl _) ?_; intro w1 o1 gr1)
        | (at_builtin; refine Lib.wpList_append_fits_string _ rfl (.tmp 21) _ 22 9 rfl w.heap.size 5 i5 Try.underlying22 Try.underlying9 hi5 y1 (some ⟨w.heap.size, 0, none⟩) 0 (48 + sz ps) [] rfl o1 opn rfl (by omega) (by have : opn.size = 44 := rfl; omega) ?_; intro w2 o2 gr2))
      have o3 : w2.ownsRow w.heap.size 5 1 (.slice (some ⟨w.heap.size, 0, none⟩) 44 (48 + sz ps)) 44 ((pre ps 0).map (Value.int .u8)) := by
        rw [pre_zero, ← strCells_sb]
        have e : opn.size = 44 := rfl
        rw [e, Nat.zero_add, List.nil_append] at o2
        exact o2
      have hb1 : Below w.heap.size w w1 := (Below.refl _ _).grown gr1 (Nat.le_refl _) (by simp)
      have hb2 : Below w.heap.size w w2 := hb1.grown gr2 hb1.size (by intro k e; cases e; exact Nat.le_refl _)
      clear o1 o2 gr1 gr2 hb1 by5
      go_wp2_with fail
      go_loopw [6, 8, 25] (fun v _ i wr => ∃ (k n : Nat), k ≤ ps.length ∧ i = .int .i64 k ∧ v = .slice (some ⟨w.heap.size, 0, none⟩) n (48 + sz ps) ∧ n = 44 + tot ps k ∧ wr.ownsRow w.heap.size 5 1 (.slice (some ⟨w.heap.size, 0, none⟩) n (48 + sz ps)) n ((pre ps k).map (Value.int .u8)) ∧ Below w.heap.size w wr) (fun _ _ i _ => ps.length - (intOf i).toNat)
      case atStart => exact ⟨0, 44, Nat.zero_le _, rfl, rfl, by rw [tot_zero], o3, hb2⟩
      case round =>
        clear o3 hb2
        rename World => wr
        obtain ⟨q, n, hq, rfl, rfl, hn, own, hb⟩ := hrel
        have HN := hide hn
        have hn4 : n ≤ 44 + sz ps := by have := tot_le ps q; omega
        clear hn
        by_cases hqt : q < ps.length
        · obtain ⟨b, off, a, c, rfl, c1, hbs, hnc, hsl⟩ := h.below hb q hqt
          have hpk := part_le ps q hqt
          have hfit : n + ps[q].length ≤ 48 + sz ps := by have := unhide HN; omega
          have HOWN := hide own
          clear hpk hsl h own
          go_wp2_with (at_builtin; refine wpList_append_fits_any _ rfl (.tmp 29) (.tmp 30) 22 rfl w.heap.size 5 i5 1 Try.underlying22 hi5 y1 w.heap.size n (48 + sz ps) _ rfl (unhide HOWN) a ps[q].length c (ps[q].map (Value.int .u8)) rfl (by rw [List.length_map, Nat.mul_one]) (fun e => ⟨hbs.none_len e, hnc e⟩) hbs.news (u8s_one _) hfit ?_; intro w3 o3 gr3)
          go_roundw
          case rel => exact ⟨q + 1, n + ps[q].length, hqt, by go_num, rfl, by rw [tot_succ ps q hqt, unhide HN]; omega, by rw [pre_succ ps q hqt, List.map_append]; exact o3, hb.grown gr3 hb.size (by intro k e; cases e; exact Nat.le_refl _)⟩
          case measure => simp [intOf]; omega
        · have e : q = ps.length := by omega
          have hn5 : n = 44 + sz ps := by have := unhide HN; rw [e, tot_all] at this; exact this
          subst hn5
          rw [e] at own
          have hsz : 44 + sz ps + cls.size = 48 + sz ps := by have : cls.size = 4 := rfl; omega
          have HSZ := hide hsz
          have HOWN := hide own
          clear HN h own hsz
          go_wp2_with (at_builtin; refine Lib.wpList_append_fits_string _ rfl (.tmp 33) _ 22 9 rfl w.heap.size 5 i5 Try.underlying22 Try.underlying9 hi5 y1 (some ⟨w.heap.size, 0, none⟩) (44 + sz ps) (48 + sz ps) _ rfl (unhide HOWN) cls rfl (by omega) (by rw [unhide HSZ]; exact Nat.le_refl _) ?_; intro w3 o3 gr3)
          go_ret
          rw [unhide HSZ, strCells_sb, ← List.map_append, pre_all] at o3
          refine ⟨⟨w.heap.size, ?_, own_bytes o3⟩, hb.grown gr3 hb.size (by intro k e; cases e; exact Nat.le_refl _)⟩
          show Ending.returned (.slice (some ⟨w.heap.size, 0, none⟩) (44 + sz ps + 4) (48 + sz ps)) = _
          rw [show 44 + sz ps + 4 = 48 + sz ps by omega]
end Go.Proofs.Qxb6614903a
