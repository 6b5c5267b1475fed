import Derived.Test.Qxb6614881aPlainB
import Derived.OwnWalk
import Derived.Deep.Slices
namespace Go.Proofs.Qxb6614881a
open Go.RowKit

/-! ### The three lists that the law lays beside the given ones -/
def acc {α : Type} (l : List α) (x : α) (p f i : Nat) : List α := if i ≤ p then l.take i else l.take p ++ x :: ((l.drop (p + f)).take (i - p - f))
theorem acc_zero {α : Type} (l : List α) (x : α) (p f : Nat) : acc l x p f 0 = [] := by simp [acc]
theorem acc_lt {α : Type} (l : List α) (x : α) (p f i : Nat) (hi : i < p) (hl : i < l.length) : acc l x p f (i + 1) = acc l x p f i ++ [l[i]] := by
  rw [acc, acc, if_pos (by omega), if_pos (by omega), List.take_succ_eq_append_getElem hl]
theorem acc_gt {α : Type} (l : List α) (x : α) (p f i : Nat) (hi : p < i) (hf : f ≤ 1) (hl : i < l.length) : acc l x p f (i + 1) = acc l x p f i ++ [l[i]] := by
  rw [acc, acc, if_neg (by omega), if_neg (by omega)]
  have e : i + 1 - p - f = (i - p - f) + 1 := by omega
  rw [e, List.take_succ_eq_append_getElem (by simp; omega)]
  have e2 : p + f + (i - p - f) = i := by omega
  simp [List.getElem_drop, e2]
theorem acc_end {α : Type} (l : List α) (x : α) (p f : Nat) (hp : p < l.length) (hpf : p + f ≤ l.length) : acc l x p f (l.length + 1) = acc l x p f l.length := by
  have e1 : (l.drop (p + f)).take (l.length + 1 - p - f) = l.drop (p + f) := List.take_of_length_le (by simp; omega)
  have e2 : (l.drop (p + f)).take (l.length - p - f) = l.drop (p + f) := List.take_of_length_le (by simp; omega)
  rw [acc, acc, if_neg (by omega), if_neg (by omega), e1, e2]
theorem acc_found {α : Type} (l : List α) (x : α) (p : Nat) : acc l x p 1 (p + 1) = acc l x p 1 p ++ [x] := by
  rw [acc, acc, if_neg (by omega), if_pos (Nat.le_refl _)]
  simp
theorem acc_new {α : Type} (l : List α) (x : α) (p : Nat) (hp : p < l.length) : acc l x p 0 (p + 1) = acc l x p 0 p ++ [x] ++ [l[p]] := by
  rw [acc, acc, if_neg (by omega), if_pos (Nat.le_refl _)]
  have e : p + 1 - p - 0 = 1 := by omega
  have e2 : (l.drop p).take 1 = [l[p]] := by rw [List.drop_eq_getElem_cons hp]; rfl
  rw [e, Nat.add_zero, e2]
  simp
theorem acc_new_end {α : Type} (l : List α) (x : α) : acc l x l.length 0 (l.length + 1) = acc l x l.length 0 l.length ++ [x] := by
  rw [acc, acc, if_neg (by omega), if_pos (Nat.le_refl _)]
  simp
theorem acc_final {α : Type} (l : List α) (x : α) (p f : Nat) (hpf : p + f ≤ l.length) : acc l x p f (l.length + 1) = ins l x p f := by
  rw [acc, if_neg (by omega), ins, List.take_of_length_le (l := l.drop (p + f)) (by simp; omega)]
theorem acc_len {α β : Type} (l : List α) (m : List β) (x : α) (y : β) (p f i : Nat) (h : m.length = l.length) : (acc m y p f i).length = (acc l x p f i).length := by
  unfold acc
  split <;> simp [h]
theorem acc_len_le {α : Type} (l : List α) (x : α) (p f i : Nat) (hp : p + f ≤ l.length) (hi : i ≤ l.length + 1) : (acc l x p f i).length ≤ l.length + 1 - f := by
  unfold acc
  split <;> simp <;> omega

theorem ins_get? {α : Type} (l : List α) (x : α) (p f k : Nat) (hp : p ≤ l.length) : (ins l x p f)[k]? = if k < p then l[k]? else if k = p then some x else l[k - 1 + f]? := by
  unfold ins
  by_cases h1 : k < p
  · rw [if_pos h1, List.getElem?_append_left (by simp; omega), List.getElem?_take, if_pos h1]
  · rw [if_neg h1, List.getElem?_append_right (by simp; omega)]
    by_cases h2 : k = p
    · subst h2
      simp [Nat.min_eq_left hp]
    · rw [if_neg h2]
      have e : k - (l.take p).length = (k - p - 1) + 1 := by simp; omega
      rw [e, List.getElem?_cons_succ, List.getElem?_drop]
      congr 1
      omega

/-- A slice value that leads to the strings l. -/
def SlcOf (w : World) (v : Value) (l : List ByteArray) : Prop := ∃ a c, v = .slice a l.length c ∧ StrsAt w a l ∧ l.length ≤ maxLen
theorem SlcOf.below {w w' : World} {v : Value} {l : List ByteArray} (h : SlcOf w v l) (hb : Below w.heap.size w w') : SlcOf w' v l := by
  obtain ⟨a, c, h1, h2, h3⟩ := h
  exact ⟨a, c, h1, h2.below hb, h3⟩
def SlcsOf (w : World) (vs : List Value) (ls : List (List ByteArray)) : Prop := vs.length = ls.length ∧ ∀ (k : Nat) (v : Value) (l : List ByteArray), vs[k]? = some v → ls[k]? = some l → SlcOf w v l
theorem SlcsOf.ins {w : World} {vs : List Value} {ls : List (List ByteArray)} (h : SlcsOf w vs ls) {v : Value} {l : List ByteArray} (hv : SlcOf w v l) (p f : Nat) (hp : p + f ≤ vs.length) : SlcsOf w (ins vs v p f) (ins ls l p f) := by
  have hl := h.1
  refine ⟨by rw [ins_len _ _ _ _ hp, ins_len _ _ _ _ (by omega), hl], fun k u m hu hm => ?_⟩
  rw [ins_get? _ _ _ _ _ (by omega)] at hu hm
  by_cases h1 : k < p
  · rw [if_pos h1] at hu hm; exact h.2 k u m hu hm
  · rw [if_neg h1] at hu hm
    by_cases h2 : k = p
    · rw [if_pos h2] at hu hm
      obtain rfl := Option.some.inj hu
      obtain rfl := Option.some.inj hm
      exact hv
    · rw [if_neg h2] at hu hm; exact h.2 _ u m hu hm
theorem SlcsOf.below {w w' : World} {vs : List Value} {ls : List (List ByteArray)} (h : SlcsOf w vs ls) (hb : Below w.heap.size w w') : SlcsOf w' vs ls := ⟨h.1, fun k v l h1 h2 => (h.2 k v l h1 h2).below hb⟩

/-- The values of a slice of slices, by name. -/
theorem ListsAt.vals {w : World} {ao : Option Addr} {ls : List (List ByteArray)} (h : ListsAt w ao ls) : ∃ vs : List Value, SlcsOf w vs ls ∧ ∀ k (hk : k < vs.length), ∃ b off, ao = some ⟨b, off, none⟩ ∧ w.cell? ⟨b, off + k, none⟩ = some vs[k] := by
  obtain ⟨f, hf⟩ := @Deep.choose_lt Value ⟨.nilFunc⟩ ls.length (fun k v => (∃ b off, ao = some ⟨b, off, none⟩ ∧ w.cell? ⟨b, off + k, none⟩ = some v) ∧ ∀ l, ls[k]? = some l → SlcOf w v l) (fun k hk => by
    obtain ⟨b, off, a, c, h1, h2, h3, h4⟩ := h k hk
    refine ⟨_, ⟨b, off, h1, h2⟩, fun l hl => ?_⟩
    rw [List.getElem?_eq_getElem hk] at hl
    obtain rfl := Option.some.inj hl
    exact ⟨a, c, rfl, h3, h4⟩)
  refine ⟨(List.range ls.length).map f, ⟨by simp, fun k v l hv hl => ?_⟩, fun k hk => ?_⟩
  · have hk : k < ls.length := (List.getElem?_eq_some_iff.1 hl).1
    simp [hk] at hv
    subst hv
    exact (hf k hk).2 l hl
  · have hk' : k < ls.length := by simpa using hk
    simpa using (hf k hk').1

/-- Out of owned rows: what the three lists are good for. -/
theorem own_strs {w : World} {B g n c : Nat} {l : List ByteArray} (h : w.ownsRow B 9 1 (.slice (some ⟨g, 0, none⟩) n c) n (l.map Value.string)) : StrsAt w (some ⟨g, 0, none⟩) l := by
  intro k hk
  refine ⟨g, 0, rfl, ?_⟩
  have := h.cells (g := g) rfl k (.string l[k]) (by simp [hk])
  rwa [Addr.add_lit] at this
theorem own_bools {w : World} {B g n c : Nat} {l : List Bool} (h : w.ownsRow B 4 1 (.slice (some ⟨g, 0, none⟩) n c) n (l.map Value.bool)) : BoolsAt w (some ⟨g, 0, none⟩) l := by
  intro k hk
  refine ⟨g, 0, rfl, ?_⟩
  have := h.cells (g := g) rfl k (.bool l[k]) (by simp [hk])
  rwa [Addr.add_lit] at this
theorem own_lists {w : World} {B g n c : Nat} {vs : List Value} {ls : List (List ByteArray)} (h : w.ownsRow B 22 1 (.slice (some ⟨g, 0, none⟩) n c) n vs) (hs : SlcsOf w vs ls) : ListsAt w (some ⟨g, 0, none⟩) ls := by
  intro k hk
  have hkv : k < vs.length := by rw [hs.1]; exact hk
  obtain ⟨a, c', h1, h2, h3⟩ := hs.2 k vs[k] ls[k] (List.getElem?_eq_getElem hkv) (List.getElem?_eq_getElem hk)
  refine ⟨g, 0, a, c', rfl, ?_, h2, h3⟩
  have := h.cells (g := g) rfl k vs[k] (List.getElem?_eq_getElem hkv)
  rw [Addr.add_lit] at this
  rw [this, h1]

theorem one_str (s : ByteArray) : ∀ u ∈ [Value.string s], u.oneCell' = true := by intro u hu; simp at hu; subst hu; rfl
theorem one_bool (s : Bool) : ∀ u ∈ [Value.bool s], u.oneCell' = true := by intro u hu; simp at hu; subst hu; rfl
theorem one_slc (a : Option Addr) (l c : Nat) : ∀ u ∈ [Value.slice a l c], u.oneCell' = true := by intro u hu; simp at hu; subst hu; rfl
/-- Another block than the one that was appended to. -/
theorem own_kept_ne {w w' : World} {B e size n g h l c : Nat} {xs : List Value} (ho : w.ownsRow B e size (.slice (some ⟨h, 0, none⟩) l c) n xs) (hg : w.grownBy w' (some g)) (hne : h ≠ g) : w'.ownsRow B e size (.slice (some ⟨h, 0, none⟩) l c) n xs :=
  ho.kept hg (.inr (by simp [Value.ownBlock]; exact hne))
end Go.Proofs.Qxb6614881a
