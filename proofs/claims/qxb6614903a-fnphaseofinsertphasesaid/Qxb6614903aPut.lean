import Derived.Test.Qxb6614903aBytesB
import Derived.Test.Qxb6614903aLawA
import Derived.Deep.Slices
import Derived.Deep.AppendLies
namespace Go.Proofs.Qxb6614903a
open Go.RowKit

theorem Try.info70 : (Try.prog.info? 70).map (fun i => (i.zero, i.size, i.bytes)) = some (some (.slice none 0 0), 1, 24) := by kernel_rfl
/-- A slice value that leads to the strings l. -/
def SlcOf (w : World) (v : Value) (l : List ByteArray) : Prop := ∃ a c, v = .slice a l.length c ∧ StrsAt w a l ∧ l.length ≤ maxLen
theorem SlcOf.below {w w' : World} {v : Value} {l : List ByteArray} (h : SlcOf w v l) (hb : Below w.heap.size w w') : SlcOf w' v l := by
  obtain ⟨a, c, h1, h2, h3⟩ := h
  exact ⟨a, c, h1, h2.below hb, h3⟩
theorem SlcOf.one {w : World} {v : Value} {l : List ByteArray} (h : SlcOf w v l) : v.oneCell' = true := by
  obtain ⟨a, c, rfl, -⟩ := h
  rfl
def SlcsOf (w : World) (vs : List Value) (ls : List (List ByteArray)) : Prop := vs.length = ls.length ∧ ∀ (k : Nat) (v : Value) (l : List ByteArray), vs[k]? = some v → ls[k]? = some l → SlcOf w v l
theorem SlcsOf.below {w w' : World} {vs : List Value} {ls : List (List ByteArray)} (h : SlcsOf w vs ls) (hb : Below w.heap.size w w') : SlcsOf w' vs ls := ⟨h.1, fun k v l h1 h2 => (h.2 k v l h1 h2).below hb⟩
theorem SlcsOf.one {w : World} {vs : List Value} {ls : List (List ByteArray)} (h : SlcsOf w vs ls) : ∀ u ∈ vs, u.oneCell' = true := by
  intro u hu
  obtain ⟨k, hk, rfl⟩ := List.mem_iff_getElem.1 hu
  exact (h.2 k _ _ (List.getElem?_eq_getElem hk) (List.getElem?_eq_getElem (by rw [← h.1]; exact hk))).one
theorem SlcsOf.app {w : World} {vs us : List Value} {ls ms : List (List ByteArray)} (h : SlcsOf w vs ls) (h' : SlcsOf w us ms) : SlcsOf w (vs ++ us) (ls ++ ms) := by
  refine ⟨by simp [h.1, h'.1], fun k v l hv hl => ?_⟩
  by_cases hk : k < vs.length
  · rw [List.getElem?_append_left hk] at hv
    rw [List.getElem?_append_left (by rw [← h.1]; exact hk)] at hl
    exact h.2 k v l hv hl
  · rw [List.getElem?_append_right (by omega)] at hv
    rw [List.getElem?_append_right (by rw [← h.1]; omega), ← h.1] at hl
    exact h'.2 _ v l hv hl
theorem SlcsOf.take {w : World} {vs : List Value} {ls : List (List ByteArray)} (h : SlcsOf w vs ls) (c : Nat) : SlcsOf w (vs.take c) (ls.take c) := by
  refine ⟨by simp [h.1], fun k v l hv hl => ?_⟩
  rw [List.getElem?_take] at hv hl
  split at hv
  · rw [if_pos (by assumption)] at hl; exact h.2 k v l hv hl
  · cases hv
theorem SlcsOf.drop {w : World} {vs : List Value} {ls : List (List ByteArray)} (h : SlcsOf w vs ls) (c : Nat) : SlcsOf w (vs.drop c) (ls.drop c) := by
  refine ⟨by simp [h.1], fun k v l hv hl => ?_⟩
  rw [List.getElem?_drop] at hv hl
  exact h.2 _ v l hv hl
theorem SlcsOf.single {w : World} {v : Value} {l : List ByteArray} (h : SlcOf w v l) : SlcsOf w [v] [l] := by
  refine ⟨rfl, fun k u m hu hm => ?_⟩
  cases k with
  | zero => simp at hu hm; subst hu; subst hm; exact h
  | succ k => simp at hu

/-- The values lie there. -/
def ValsAt (w : World) (ao : Option Addr) (vs : List Value) : Prop := ∀ k (hk : k < vs.length), ∃ b off, ao = some ⟨b, off, none⟩ ∧ w.cell? ⟨b, off + k, none⟩ = some vs[k]
theorem ValsAt.below {w w' : World} {ao : Option Addr} {vs : List Value} (h : ValsAt w ao vs) (hb : Below w.heap.size w w') : ValsAt w' ao vs := by
  intro k hk
  obtain ⟨b, off, h1, h2⟩ := h k hk
  exact ⟨b, off, h1, cell_below h2 hb⟩
theorem ValsAt.take {w : World} {ao : Option Addr} {vs : List Value} (h : ValsAt w ao vs) (c : Nat) : ValsAt w ao (vs.take c) := by
  intro k hk
  have hk' : k < vs.length := by simp at hk; omega
  obtain ⟨b, off, h1, h2⟩ := h k hk'
  exact ⟨b, off, h1, by rw [h2]; simp⟩
theorem ValsAt.drop {w : World} {ao : Option Addr} {vs : List Value} (h : ValsAt w ao vs) (c cap : Nat) (hc : vs.length ≤ cap) : ValsAt w (if cap = c then ao else ao.map (fun x => x.add c)) (vs.drop c) := by
  intro k hk
  have hk' : c + k < vs.length := by simp at hk; omega
  obtain ⟨b, off, h1, h2⟩ := h (c + k) hk'
  have e : (vs.drop c)[k] = vs[c + k] := by simp
  rw [if_neg (by omega), e]
  refine ⟨b, off + c, by simp [h1, Addr.add], ?_⟩
  rw [Nat.add_assoc]; exact h2
theorem ValsAt.news {w : World} {ao : Option Addr} {vs : List Value} (h : ValsAt w ao vs) : ∀ ad, ao = some ad → ∀ j u, vs[j]? = some u → w.cell? (ad.add j) = some u := by
  intro ad ha j u hu
  obtain ⟨hj, rfl⟩ := List.getElem?_eq_some_iff.1 hu
  obtain ⟨b, off, h1, h2⟩ := h j hj
  obtain rfl := Option.some.inj (ha.symm.trans h1)
  rw [Addr.add_lit]; exact h2

/-- The values of a slice of slices, by name. -/
theorem ListsAt.vals {w : World} {ao : Option Addr} {ls : List (List ByteArray)} (h : ListsAt w ao ls) : ∃ vs : List Value, SlcsOf w vs ls ∧ ValsAt w ao vs := by
  obtain ⟨f, hf⟩ := @Deep.choose_lt Value ⟨.nilFunc⟩ ls.length (fun k v => (∃ b off, ao = some ⟨b, off, none⟩ ∧ w.cell? ⟨b, off + k, none⟩ = some v) ∧ ∀ l, ls[k]? = some l → SlcOf w v l) (fun k hk => by
    obtain ⟨b, off, a, c, h1, h2, h3, h4⟩ := h k hk
    refine ⟨_, ⟨b, off, h1, h2⟩, fun l hl => ?_⟩
    rw [List.getElem?_eq_getElem hk] at hl
    obtain rfl := Option.some.inj hl
    exact ⟨a, c, rfl, h3, h4⟩)
  refine ⟨(List.range ls.length).map f, ⟨by simp, fun k v l hv hl => ?_⟩, fun k hk => ?_⟩
  · have hk : k < ls.length := (List.getElem?_eq_some_iff.1 hl).1
    simp [hk] at hv
    subst hv
    exact (hf k hk).2 l hl
  · have hk' : k < ls.length := by simpa using hk
    simpa using (hf k hk').1
theorem own_lists {w : World} {B g n c : Nat} {vs : List Value} {ls : List (List ByteArray)} (h : w.ownsRow B 70 1 (.slice (some ⟨g, 0, none⟩) n c) n vs) (hs : SlcsOf w vs ls) : ListsAt w (some ⟨g, 0, none⟩) ls := by
  intro k hk
  have hkv : k < vs.length := by rw [hs.1]; exact hk
  obtain ⟨a, c', h1, h2, h3⟩ := hs.2 k vs[k] ls[k] (List.getElem?_eq_getElem hkv) (List.getElem?_eq_getElem hk)
  refine ⟨g, 0, a, c', rfl, ?_, h2, h3⟩
  have := h.cells (g := g) rfl k vs[k] (List.getElem?_eq_getElem hkv)
  rw [Addr.add_lit] at this
  rw [this, h1]
theorem one_slc (a : Option Addr) (l c : Nat) : ∀ u ∈ [Value.slice a l c], u.oneCell' = true := by intro u hu; simp at hu; subst hu; rfl

/-- A list put in at place c. -/
def put (ls : List (List ByteArray)) (c : Nat) (x : List ByteArray) : List (List ByteArray) := ls.take c ++ [x] ++ ls.drop c
theorem put_len (ls : List (List ByteArray)) (c : Nat) (x : List ByteArray) (hc : c ≤ ls.length) : (put ls c x).length = ls.length + 1 := by
  simp [put]; omega
theorem put_short {ls : List (List ByteArray)} {c : Nat} {x : List ByteArray} (h : ∀ k (hk : k < ls.length), ls[k].length ≤ 1048576) (hx : x.length ≤ 1048576) : ∀ k (hk : k < (put ls c x).length), (put ls c x)[k].length ≤ 1048576 := by
  have key : ∀ l ∈ put ls c x, l.length ≤ 1048576 := by
    intro l hl
    simp only [put, List.mem_append, List.mem_singleton] at hl
    have hls : ∀ l ∈ ls, l.length ≤ 1048576 := fun l hl => by
      obtain ⟨k, hk, rfl⟩ := List.mem_iff_getElem.1 hl
      exact h k hk
    rcases hl with (hl | rfl) | hl
    · exact hls l (List.mem_of_mem_take hl)
    · exact hx
    · exact hls l (List.mem_of_mem_drop hl)
  exact fun k hk => key _ (List.getElem_mem hk)
/-- Where the first list that holds v lies, once x has been put in at c. -/
theorem first_put (ls : List (List ByteArray)) (c : Nat) (x : List ByteArray) (v : ByteArray) (hc : c ≤ ls.length) :
    first (put ls c x) v = if 0 ≤ first ls v ∧ first ls v < c then first ls v else if has x v then c else if 0 ≤ first ls v then first ls v + 1 else -1 := by
  have e1 := first_append (ls.take c) (ls.drop c) v
  rw [List.take_append_drop] at e1
  have e2 := first_append (ls.take c ++ [x]) (ls.drop c) v
  have e3 := first_append (ls.take c) [x] v
  have e4 : first [x] v = if has x v then 0 else -1 := by simp [first]
  have tl : (ls.take c).length = c := by simp; omega
  have tl2 : (ls.take c ++ [x]).length = c + 1 := by simp; omega
  have ga := first_ge (ls.take c) v
  have gl := first_lt (ls.take c) v
  have gb := first_ge (ls.drop c) v
  unfold put
  rw [tl] at e1 e3 gl
  rw [tl2] at e2
  rw [e2, e3, e4, e1]
  generalize first (ls.take c) v = fa at *
  generalize first (ls.drop c) v = fb at *
  clear e1 e2 e3 e4
  cases has x v <;> simp only [if_true, if_false, Bool.false_eq_true] <;> (repeat' split) <;> omega
end Go.Proofs.Qxb6614903a
