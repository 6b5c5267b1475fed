import Derived.Test.Qxb6614903aOf
import Derived.Deep.CutBlock
import Derived.Deep.DeepCutAuto
namespace Go.Proofs.Qxb6614903a
open Go.RowKit

theorem eq_nil (t : TypeId) (e : TypeId) (ht : Try.prog.underlying t = some (.slice e)) (a : Option Addr) (n c : Nat) (w : World) : (binOp .eql t (.slice a n c) (.slice none 0 0)).run Try.prog w = .ok (.bool a.isNone) w := by
  have key : ∀ d, (Op.equalIn (d + 1) t (.slice a n c) (.slice none 0 0)).run Try.prog w = .ok a.isNone w := fun d => by
    cases a <;> simp [Op.equalIn, run_underlying ht]
  have := key 9999
  simp only [binOp, Op.equal, Op.maxDepth, Sem.run_bind, this, Result.andThen_ok, Sem.run_pure]
theorem neq_nil (t : TypeId) (e : TypeId) (ht : Try.prog.underlying t = some (.slice e)) (a : Option Addr) (n c : Nat) (w : World) : (binOp .neq t (.slice a n c) (.slice none 0 0)).run Try.prog w = .ok (.bool a.isSome) w := by
  have key : ∀ d, (Op.equalIn (d + 1) t (.slice a n c) (.slice none 0 0)).run Try.prog w = .ok a.isNone w := fun d => by
    cases a <;> simp [Op.equalIn, run_underlying ht]
  have := key 9999
  simp only [binOp, Op.equal, Op.maxDepth, Sem.run_bind, this, Result.andThen_ok, Sem.run_pure]
  cases a <;> rfl

theorem own_block {w : World} {B e size n m : Nat} {g c : Nat} {xs : List Value} (h : w.ownsRow B e size (.slice (some ⟨g, 0, none⟩) n c) m xs) : ∃ cur : Array Value, w.heap[g]? = some (.cells cur e (0, 0)) ∧ cur.size = c * size ∧ B ≤ g := by
  rcases h.2 with ⟨h1, _⟩ | ⟨g', cap, cur, h1, hb, hg, _, _, hs, _⟩
  · cases h1
  · obtain ⟨hga, _, rfl⟩ := Value.slice.inj h1
    simp at hga
    subst hga
    exact ⟨cur, hg, by simpa using hs, hb⟩

/-- The strings of l, as far as they have been laid into block g. -/
def StrTo (w : World) (g : Nat) (l : List ByteArray) (k : Nat) : Prop :=
  ∃ cur : Array Value, w.heap[g]? = some (.cells cur 44 (0, 0)) ∧ cur.size = l.length ∧ ∀ j (hj : j < l.length), j < k → cur[j]? = some (.string l[j])
theorem StrTo.step {w : World} {g k : Nat} {l : List ByteArray} (h : StrTo w g l k) (hk : k < l.length) : StrTo (w.setCell ⟨g, k, none⟩ (.string l[k])) g l (k + 1) := by
  obtain ⟨cur, h1, h2, h3⟩ := h
  refine ⟨cur.setIfInBounds k (.string l[k]), by simp [World.setCell, Array.getElem?_modify, h1], by simpa using h2, fun j hj hjk => ?_⟩
  by_cases e : j = k
  · subst e
    rw [Array.getElem?_setIfInBounds_self_of_lt (by omega)]
  · rw [Array.getElem?_setIfInBounds_ne (by omega)]
    exact h3 j hj (by omega)
theorem StrTo.at {w : World} {g k : Nat} {l : List ByteArray} (h : StrTo w g l k) (hk : k < l.length) : (∃ v, w.cell? ⟨g, k, none⟩ = some v) ∧ w.frozen? ⟨g, k, none⟩ = false := by
  obtain ⟨cur, h1, h2, _⟩ := h
  refine ⟨?_, by simp [World.frozen?, h1]⟩
  rw [cell_of_row _ g _ _ 44 (0, 0) h1]
  exact ⟨cur[k], by simp [h2, hk]⟩
theorem StrTo.done {w : World} {g : Nat} {l : List ByteArray} (h : StrTo w g l l.length) : StrsAt w (some ⟨g, 0, none⟩) l := by
  obtain ⟨cur, h1, h2, h3⟩ := h
  intro k hk
  refine ⟨g, 0, rfl, ?_⟩
  rw [cell_of_row _ g _ _ 44 (0, 0) h1, Nat.zero_add, h3 k hk hk]

def zph : List Value := [.string ⟨#[]⟩, .string ⟨#[]⟩, .int .i64 0, .int .i64 0, .pointer none, .slice none 0 0, .slice none 0 0, .pointer none, .pointer none, .pointer none, .pointer none, .pointer none]
/-- The phases, as far as they have been laid into block g. -/
def PhTo (w : World) (g : Nat) (ls : List (List ByteArray)) (k : Nat) : Prop :=
  ∃ cur : Array Value, w.heap[g]? = some (.cells cur 118 (0, 0)) ∧ cur.size = ls.length * 12 ∧ (∀ j i, j < ls.length → i < 12 → i ≠ 6 → cur[j * 12 + i]? = zph[i]?) ∧
    ∀ j (hj : j < ls.length), j < k → ∃ a c, cur[j * 12 + 6]? = some (.slice a ls[j].length c) ∧ StrsAt w a ls[j] ∧ ∀ ad, a = some ad → g < ad.block
theorem StrsAt.other {w w' : World} {a : Option Addr} {l : List ByteArray} {g : Nat} (h : StrsAt w a l) (ha : ∀ ad, a = some ad → g < ad.block) (hk : ∀ b, b ≠ g → w'.heap[b]? = w.heap[b]?) : StrsAt w' a l := by
  intro k hk'
  obtain ⟨b, off, h1, h2⟩ := h k hk'
  refine ⟨b, off, h1, ?_⟩
  rw [World.cell?_of_block (w := w) (a := ⟨b, off + k, none⟩) (hk b (by have := ha _ h1; simp at this; omega))]
  exact h2
theorem PhTo.step {w : World} {g k : Nat} {ls : List (List ByteArray)} (h : PhTo w g ls k) (hk : k < ls.length) (a : Option Addr) (c : Nat) (hs : StrsAt w a ls[k]) (ha : ∀ ad, a = some ad → g < ad.block) :
    PhTo (w.setCell ⟨g, k * 12 + 6, none⟩ (.slice a ls[k].length c)) g ls (k + 1) := by
  obtain ⟨cur, h1, h2, h3, h4⟩ := h
  have ho : ∀ b, b ≠ g → (w.setCell ⟨g, k * 12 + 6, none⟩ (.slice a ls[k].length c)).heap[b]? = w.heap[b]? := fun b hb => by simp [World.setCell, Array.getElem?_modify, Ne.symm hb]
  refine ⟨cur.setIfInBounds (k * 12 + 6) (.slice a ls[k].length c), by simp [World.setCell, Array.getElem?_modify, h1], by simpa using h2, fun j i hj hi h6 => ?_, fun j hj hjk => ?_⟩
  · rw [Array.getElem?_setIfInBounds_ne (by omega)]
    exact h3 j i hj hi h6
  · by_cases e : j = k
    · subst e
      exact ⟨a, c, by rw [Array.getElem?_setIfInBounds_self_of_lt (by omega)], hs.other ha ho, ha⟩
    · obtain ⟨a', c', g1, g2, g3⟩ := h4 j hj (by omega)
      exact ⟨a', c', by rw [Array.getElem?_setIfInBounds_ne (by omega)]; exact g1, g2.other g3 ho, g3⟩
theorem PhTo.below {w w' : World} {g k : Nat} {ls : List (List ByteArray)} (h : PhTo w g ls k) (hb : Below w.heap.size w w') : PhTo w' g ls k := by
  obtain ⟨cur, h1, h2, h3, h4⟩ := h
  have hg : g < w.heap.size := (Array.getElem?_eq_some_iff.1 h1).1
  refine ⟨cur, (hb.block g hg).trans h1, h2, h3, fun j hj hjk => ?_⟩
  obtain ⟨a, c, g1, g2, g3⟩ := h4 j hj hjk
  exact ⟨a, c, g1, g2.below hb, g3⟩
theorem PhTo.at {w : World} {g k : Nat} {ls : List (List ByteArray)} (h : PhTo w g ls k) (hk : k < ls.length) : (∃ v, w.cell? ⟨g, k * 12 + 6, none⟩ = some v) ∧ w.frozen? ⟨g, k * 12 + 6, none⟩ = false := by
  obtain ⟨cur, h1, h2, _⟩ := h
  refine ⟨?_, by simp [World.frozen?, h1]⟩
  rw [cell_of_row _ g _ _ 118 (0, 0) h1]
  have : k * 12 + 6 < cur.size := by omega
  exact ⟨cur[k * 12 + 6], by simp [this]⟩
theorem PhTo.done {w : World} {g : Nat} {ls : List (List ByteArray)} (h : PhTo w g ls ls.length) (hm : ∀ k (hk : k < ls.length), ls[k].length ≤ maxLen) : PhAt w (some ⟨g, 0, none⟩) ls := by
  obtain ⟨cur, h1, h2, h3, h4⟩ := h
  intro k hk
  obtain ⟨a, c, g1, g2, -⟩ := h4 k hk hk
  have z : ∀ i, i < 12 → i ≠ 6 → w.cell? ⟨g, k * 12 + i, none⟩ = zph[i]? := fun i hi h6 => by rw [cell_of_row _ g _ _ 118 (0, 0) h1]; exact h3 k i hk hi h6
  refine ⟨g, a, c, rfl, ⟨z 0 (by decide) (by decide), z 1 (by decide) (by decide), z 2 (by decide) (by decide), z 3 (by decide) (by decide), z 4 (by decide) (by decide), z 5 (by decide) (by decide), ?_, z 7 (by decide) (by decide), z 8 (by decide) (by decide), z 9 (by decide) (by decide), z 10 (by decide) (by decide), z 11 (by decide) (by decide)⟩, g2, hm k hk⟩
  rw [cell_of_row _ g _ _ 118 (0, 0) h1]; exact g1
theorem PhTo.start {w : World} {B g : Nat} {ls : List (List ByteArray)} (h : w.ownsRow B 118 12 (.slice (some ⟨g, 0, none⟩) ls.length ls.length) ls.length (madeCells (Value.agg zph.toArray).cells (ls.length * 12)).toList) : PhTo w g ls 0 := by
  obtain ⟨cur, h1, h2, -⟩ := own_block h
  refine ⟨cur, h1, h2, fun j i hj hi _ => ?_, fun j _ hjk => by omega⟩
  have hz : zph[i]? = some zph[i]! := by rw [List.getElem?_eq_getElem (by simpa [zph] using hi)]; simp [show i < zph.length from by simpa [zph] using hi]
  have hm : (madeCells (Value.agg zph.toArray).cells (ls.length * 12)).toList[j * 12 + i]? = some zph[i]! := by
    have hlt : j * 12 + i < ls.length * 12 := by omega
    have hsz : (Value.agg zph.toArray).cells = zph.toArray := by kernel_rfl
    have hmod : (j * 12 + i) % 12 = i := by omega
    rw [hsz]
    have hs12 : zph.toArray.size = 12 := rfl
    simp [madeCells, hlt, hs12, hmod]
  have := h.cells (g := g) rfl (j * 12 + i) _ hm
  rw [Addr.add_lit, cell_of_row _ g _ _ 118 (0, 0) h1, Nat.zero_add] at this
  rw [this, hz]

set_option maxRecDepth 100000 in
set_option maxHeartbeats 4000000 in
theorem phaseList_wide (ao : Option Addr) (cap : Nat) (ls : List (List ByteArray)) (w : World) (hl : ls.length ≤ 1048577) (hm : ∀ k (hk : k < ls.length), ls[k].length ≤ 1048576) (h : ListsAt w ao ls) :
    Calls Try.prog 20 #[.slice ao ls.length cap] w fun e w' => (∃ go c, e = .returned (.slice go ls.length c) ∧ PhAt w' go ls) ∧ Below w.heap.size w w' := by
  have q34 := eq_nil 34 70 Try.underlying34
  have q70 := neq_nil 70 9 Try.underlying70
  obtain ⟨i44, hi44, y0, y1, y2⟩ := info_parts Try.info44
  obtain ⟨i118, hi118, z0, z1, z2⟩ := info_parts Try.info118
  cases ao with
  | none =>
    have hz : ls.length = 0 := by
      rcases Nat.eq_zero_or_pos ls.length with e | e
      · exact e
      · obtain ⟨b, off, a, c, h1, -⟩ := h 0 e
        cases h1
    have HZ := hide hz
    go_enter Try.func20, Try.ntmps20
    clear hz
    go_wp2
    go_ret
    exact ⟨⟨none, 0, by rw [unhide HZ]; rfl, fun k hk => by have := unhide HZ; omega⟩, Below.refl _ _⟩
  | some ad =>
    have by118 : i118.bytes * ls.length ≤ 281474976710656 := by rw [z2]; omega
    go_enter Try.func20, Try.ntmps20
    go_wp2_with (at_make; refine wpList_make_full _ rfl _ _ 39 rfl w.heap.size 118 i118 _ 12 Try.underlying39 hi118 z0 z1 .i64 .i64 _ _ ls.length rfl rfl rfl rfl by118 (by unfold maxLen; omega) (Nat.le_refl _) ?_; intro w1 own1 gr1)
    have hph : PhTo w1 w.heap.size ls 0 := PhTo.start own1
    have hb1 : Below w.heap.size w w1 := (Below.refl _ _).grown gr1 (Nat.le_refl _) (by simp)
    have hg1 : w.heap.size < w1.heap.size := (own1.lt _ rfl).2
    obtain ⟨G, hG⟩ : ∃ G, G = w.heap.size := ⟨_, rfl⟩
    have hGw : w.heap.size ≤ G := by omega
    have hGl : G < w1.heap.size := by omega
    rw [← hG] at hph
    conv =>
      arg 4
      rw [← hG]
    clear own1 gr1 hi118 z0 z1 z2 by118 hg1 hG q34
    go_loopw [4, 5, 6] (fun i _ _ wr => ∃ k : Nat, k ≤ ls.length ∧ i = .int .i64 k ∧ PhTo wr G ls k ∧ Below w.heap.size w wr ∧ G < wr.heap.size) (fun i _ _ _ => ls.length - (intOf i).toNat)
    case atStart => exact ⟨0, Nat.zero_le _, rfl, hph, hb1, hGl⟩
    case round =>
      clear hph hb1 hGl
      obtain ⟨k, hk, rfl, hph, hb, hGr⟩ := hrel
      have HP := hide hph
      clear hph
      by_cases hlt : k < ls.length
      · obtain ⟨b, off, a, c, hao, c1, hs, hsm⟩ := h.below hb k hlt
        cases hao
        have hmk := hm k hlt
        go_upto_if 22 with fail
        go_cut [5] from 12 to 52 (fun v wx => ∃ a' c', v = .slice a' ls[k].length c' ∧ StrsAt wx a' ls[k] ∧ (∀ ad, a' = some ad → G < ad.block) ∧ Below wr.heap.size wr wx)
        case first =>
          have HGR := hide hGr
          clear HP hGr hGw
          cases a with
          | none =>
            have hz : ls[k].length = 0 := by
              rcases Nat.eq_zero_or_pos ls[k].length with e | e
              · exact e
              · obtain ⟨b', off', h1, -⟩ := hs 0 e
                cases h1
            have HZ := hide hz
            clear hz
            go_wp2
            go_meet
            case rel => exact ⟨none, 0, by rw [unhide HZ], fun j hj => by have := unhide HZ; omega, by simp, Below.refl _ _⟩
          | some ad =>
            have hcb := World.block_lt_of_cell? wr _ c1
            have by44 : i44.bytes * ls[k].length ≤ 281474976710656 := by rw [y2]; omega
            go_wp2_with (at_make; refine wpList_make_full _ rfl _ _ 53 rfl wr.heap.size 44 i44 _ 1 Try.underlying53 hi44 y0 y1 .i64 .i64 _ _ ls[k].length rfl rfl rfl rfl by44 (by unfold maxLen; omega) (Nat.le_refl _) ?_; intro w2 own2 gr2)
            obtain ⟨cur, hcur, hcl, -⟩ := own_block own2
            have hst : StrTo w2 wr.heap.size ls[k] 0 := ⟨cur, hcur, by simpa using hcl, fun j _ h => by omega⟩
            have hb2 : Below wr.heap.size wr w2 := (Below.refl _ _).grown gr2 (Nat.le_refl _) (by simp)
            clear own2 gr2 hcur hcl by44 hi44 y0 y1 y2
            go_loopw [6] (fun i wx => ∃ q : Nat, q ≤ ls[k].length ∧ i = .int .i64 q ∧ StrTo wx wr.heap.size ls[k] q ∧ Below wr.heap.size wr wx) (fun i _ => ls[k].length - (intOf i).toNat)
            case atStart => exact ⟨0, Nat.zero_le _, rfl, hst, hb2⟩
            case round =>
              clear hst hb2
              rename World => wx
              obtain ⟨q, hq, rfl, hst, hbx⟩ := hrel
              have d1 := (hbx.cell (p := ⟨b, off + k, none⟩) hcb).trans c1
              by_cases hqt : q < ls[k].length
              · obtain ⟨b2, off2, had, d2⟩ := hs.below hbx q hqt
                cases had
                obtain ⟨⟨v, d3⟩, d4⟩ := hst.at hqt
                have HS := hide hst
                clear hst hs c1 h
                go_wp2
                go_roundw
                case rel => exact ⟨q + 1, hqt, by go_num, (unhide HS).step hqt, hbx.setCell (by exact Nat.le_refl _) _⟩
                case measure => simp [intOf]; omega
              · have e : q = ls[k].length := by omega
                subst e
                have hd := hide hst.done
                clear hst
                go_wp2
                go_meet
                case rel => exact ⟨_, _, rfl, unhide hd, fun ad had => by cases had; exact Hid.out HGR, hbx⟩
        rename World => wx
        obtain ⟨a', c', rfl, hs', ha', hbx⟩ := hcut
        have hph := (unhide HP).below hbx
        obtain ⟨⟨v, d3⟩, d4⟩ := hph.at hlt
        have HPH := hide hph
        have HA := hide ha'
        clear hph HP ha' h c1 hs
        go_wp2
        go_roundw
        case rel => exact ⟨k + 1, hlt, by go_num, (unhide HPH).step hlt a' c' hs' (unhide HA), (hb.trans (hbx.mono hb.size)).setCell hGw _, by have := hbx.size; simp [World.setCell]; omega⟩
        case measure => simp [intOf]; omega
      · have e : k = ls.length := by omega
        subst e
        have hd := hide ((unhide HP).done fun k hk => by have := hm k hk; unfold maxLen; omega)
        go_wp2
        go_ret
        exact ⟨⟨_, _, rfl, unhide hd⟩, hb⟩
theorem phaseList_any (ao : Option Addr) (cap : Nat) (ls : List (List ByteArray)) (w : World) (hl : ls.length ≤ 1048576) (hm : ∀ k (hk : k < ls.length), ls[k].length ≤ 1048576) (h : ListsAt w ao ls) :
    Calls Try.prog 20 #[.slice ao ls.length cap] w fun e w' => (∃ go c, e = .returned (.slice go ls.length c) ∧ PhAt w' go ls) ∧ Below w.heap.size w w' :=
  phaseList_wide ao cap ls w (Nat.le_succ_of_le hl) hm h
end Go.Proofs.Qxb6614903a
