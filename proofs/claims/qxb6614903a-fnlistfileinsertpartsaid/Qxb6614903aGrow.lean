import Derived.Test.Qxb6614903aFramed
import Derived.Lib.AppendZeros
import Derived.Deep.Slices
import Derived.Deep.AppendLies
namespace Go.Proofs.Qxb6614903a
open Go.RowKit

theorem Try.info22 : (Try.prog.info? 22).map (fun i => (i.zero, i.size, i.bytes)) = some (some (.slice none 0 0), 1, 24) := by kernel_rfl
set_option maxRecDepth 100000 in
set_option maxHeartbeats 2000000 in
theorem grow_nil (n : Nat) (w : World) (h0 : 0 < n) (hn : n ≤ 4194304) :
    Calls Try.prog 71 #[.slice none 0 0, .int .i64 n] w fun e w' => (∃ g c, e = .returned (.slice (some ⟨g, 0, none⟩) 0 c) ∧ n ≤ c ∧ w'.ownsRow w.heap.size 22 1 (.slice (some ⟨g, 0, none⟩) 0 c) 0 []) ∧ Below w.heap.size w w' := by
  obtain ⟨i22, hi22, y0, y1, y2⟩ := info_parts Try.info22
  have hrz : ∀ ty, (Builtin.append_ #[23, 3] ty #[.slice none 0 0, .int .i64 n]).run Try.prog w = .ok (.slice (some ⟨w.heap.size, 0, none⟩) n (grownCap w n 0 22)) (w.drew.alloc (.cells (Builtin.zeroCells (Value.slice none 0 0).cells n ++ Builtin.zeroCells (Value.slice none 0 0).cells (grownCap w n 0 22 - n)) 22)) := fun ty =>
    Lib.run_append_nil_zeros w 23 3 ty 22 i22 _ .i64 .i64 Try.underlying23 Try.underlying3 hi22 y0 n h0 (by rw [y1]; decide) (by omega) (by rw [y2]; omega)
  have hG1 : n ≤ grownCap w n 0 22 := grownCap_ge w _ _ _
  have hG2 := grownCap_le_maxLen w n 0 22 (by unfold maxLen; omega)
  obtain ⟨G, hG⟩ : ∃ G, G = grownCap w n 0 22 := ⟨_, rfl⟩
  rw [← hG] at hG1 hG2
  simp only [← hG] at hrz
  obtain ⟨cur, hcur⟩ : ∃ cur, cur = Builtin.zeroCells (Value.slice none 0 0).cells n ++ Builtin.zeroCells (Value.slice none 0 0).cells (G - n) := ⟨_, rfl⟩
  have hcs : cur.size = G := by
    rw [hcur]
    simp [Builtin.zeroCells, Value.cells]
    omega
  simp only [← hcur] at hrz
  clear hG hcur hi22 y0 y1 y2
  have hmax := hG2
  unfold maxLen at hG2
  have hown : (w.drew.alloc (.cells cur 22)).ownsRow w.heap.size 22 1 (.slice (some ⟨w.heap.size, 0, none⟩) 0 G) 0 [] :=
    ⟨rfl, .inr ⟨w.heap.size, G, cur, rfl, Nat.le_refl _, heap_alloc_new w.drew _, Nat.zero_le _, hmax, by rw [hcs, Nat.mul_one], by simp⟩⟩
  have hbel : Below w.heap.size w (w.drew.alloc (.cells cur 22)) := ((Below.refl _ _).drew).alloc (Nat.le_refl _) _
  go_enter Try.func71, Try.ntmps71
  go_wp2_with (at_builtin; refine Lib.wpList_append_run _ rfl _ _ _ _ rfl _ _ rfl rfl _ _ (hrz _) ?_)
  all_goals (go_ret; exact ⟨⟨_, _, rfl, hG1, hown⟩, hbel⟩)

theorem cell_keep {w w' : World} {a : Addr} {v : Value} (h : w.cell? a = some v) (hb : Below w.heap.size w w') : w'.cell? a = some v := (hb.cell (p := a) (World.block_lt_of_cell? w _ h)).trans h
/-- A slice value that leads to the bytes l. -/
def PartOf (w : World) (v : Value) (l : List Int) : Prop := ∃ a c, v = .slice a l.length c ∧ BytesAt w a l ∧ (a = none → c = 0) ∧ l.length ≤ maxLen
theorem PartOf.below {w w' : World} {v : Value} {l : List Int} (h : PartOf w v l) (hb : Below w.heap.size w w') : PartOf w' v l := by
  obtain ⟨a, c, h1, h2, h3⟩ := h
  exact ⟨a, c, h1, h2.below hb, h3⟩
theorem PartOf.one {w : World} {v : Value} {l : List Int} (h : PartOf w v l) : v.oneCell' = true := by
  obtain ⟨a, c, rfl, -⟩ := h
  rfl
def PartsOf (w : World) (vs : List Value) (ls : List (List Int)) : Prop := vs.length = ls.length ∧ ∀ (k : Nat) (v : Value) (l : List Int), vs[k]? = some v → ls[k]? = some l → PartOf w v l
theorem PartsOf.below {w w' : World} {vs : List Value} {ls : List (List Int)} (h : PartsOf w vs ls) (hb : Below w.heap.size w w') : PartsOf w' vs ls := ⟨h.1, fun k v l h1 h2 => (h.2 k v l h1 h2).below hb⟩
theorem PartsOf.one {w : World} {vs : List Value} {ls : List (List Int)} (h : PartsOf w vs ls) : ∀ u ∈ vs, u.oneCell' = true := by
  intro u hu
  obtain ⟨k, hk, rfl⟩ := List.mem_iff_getElem.1 hu
  exact (h.2 k _ _ (List.getElem?_eq_getElem hk) (List.getElem?_eq_getElem (by rw [← h.1]; exact hk))).one
theorem PartsOf.app {w : World} {vs us : List Value} {ls ms : List (List Int)} (h : PartsOf w vs ls) (h' : PartsOf w us ms) : PartsOf w (vs ++ us) (ls ++ ms) := by
  refine ⟨by simp [h.1, h'.1], fun k v l hv hl => ?_⟩
  by_cases hk : k < vs.length
  · rw [List.getElem?_append_left hk] at hv
    rw [List.getElem?_append_left (by rw [← h.1]; exact hk)] at hl
    exact h.2 k v l hv hl
  · rw [List.getElem?_append_right (by omega)] at hv
    rw [List.getElem?_append_right (by rw [← h.1]; omega), ← h.1] at hl
    exact h'.2 _ v l hv hl
theorem PartsOf.take {w : World} {vs : List Value} {ls : List (List Int)} (h : PartsOf w vs ls) (c : Nat) : PartsOf w (vs.take c) (ls.take c) := by
  refine ⟨by simp [h.1], fun k v l hv hl => ?_⟩
  rw [List.getElem?_take] at hv hl
  split at hv
  · rw [if_pos (by assumption)] at hl; exact h.2 k v l hv hl
  · cases hv
theorem PartsOf.drop {w : World} {vs : List Value} {ls : List (List Int)} (h : PartsOf w vs ls) (c : Nat) : PartsOf w (vs.drop c) (ls.drop c) := by
  refine ⟨by simp [h.1], fun k v l hv hl => ?_⟩
  rw [List.getElem?_drop] at hv hl
  exact h.2 _ v l hv hl
theorem PartsOf.single {w : World} {v : Value} {l : List Int} (h : PartOf w v l) : PartsOf w [v] [l] := by
  refine ⟨rfl, fun k u m hu hm => ?_⟩
  cases k with
  | zero => simp at hu hm; subst hu; subst hm; exact h
  | succ k => simp at hu

/-- The values lie there. -/
def CellsAt (w : World) (ao : Option Addr) (vs : List Value) : Prop := ∀ k (hk : k < vs.length), ∃ b off, ao = some ⟨b, off, none⟩ ∧ w.cell? ⟨b, off + k, none⟩ = some vs[k]
theorem CellsAt.below {w w' : World} {ao : Option Addr} {vs : List Value} (h : CellsAt w ao vs) (hb : Below w.heap.size w w') : CellsAt w' ao vs := by
  intro k hk
  obtain ⟨b, off, h1, h2⟩ := h k hk
  exact ⟨b, off, h1, cell_keep h2 hb⟩
theorem CellsAt.take {w : World} {ao : Option Addr} {vs : List Value} (h : CellsAt w ao vs) (c : Nat) : CellsAt w ao (vs.take c) := by
  intro k hk
  have hk' : k < vs.length := by simp at hk; omega
  obtain ⟨b, off, h1, h2⟩ := h k hk'
  exact ⟨b, off, h1, by rw [h2]; simp⟩
theorem CellsAt.drop {w : World} {ao : Option Addr} {vs : List Value} (h : CellsAt w ao vs) (c cap : Nat) (hc : vs.length ≤ cap) : CellsAt w (if cap = c then ao else ao.map (fun x => x.add c)) (vs.drop c) := by
  intro k hk
  have hk' : c + k < vs.length := by simp at hk; omega
  obtain ⟨b, off, h1, h2⟩ := h (c + k) hk'
  have e : (vs.drop c)[k] = vs[c + k] := by simp
  rw [if_neg (by omega), e]
  refine ⟨b, off + c, by simp [h1, Addr.add], ?_⟩
  rw [Nat.add_assoc]; exact h2
theorem CellsAt.news {w : World} {ao : Option Addr} {vs : List Value} (h : CellsAt w ao vs) : ∀ ad, ao = some ad → ∀ j u, vs[j]? = some u → w.cell? (ad.add j) = some u := by
  intro ad ha j u hu
  obtain ⟨hj, rfl⟩ := List.getElem?_eq_some_iff.1 hu
  obtain ⟨b, off, h1, h2⟩ := h j hj
  obtain rfl := Option.some.inj (ha.symm.trans h1)
  rw [Addr.add_lit]; exact h2

/-- The values of a slice of slices, by name. -/
theorem PartsAt.vals {w : World} {ao : Option Addr} {ls : List (List Int)} (h : PartsAt w ao ls) : ∃ vs : List Value, PartsOf w vs ls ∧ CellsAt w ao vs := by
  obtain ⟨f, hf⟩ := @Deep.choose_lt Value ⟨.nilFunc⟩ ls.length (fun k v => (∃ b off, ao = some ⟨b, off, none⟩ ∧ w.cell? ⟨b, off + k, none⟩ = some v) ∧ ∀ l, ls[k]? = some l → PartOf w v l) (fun k hk => by
    obtain ⟨b, off, a, c, h1, h2, h3, h4⟩ := h k hk
    refine ⟨_, ⟨b, off, h1, h2⟩, fun l hl => ?_⟩
    rw [List.getElem?_eq_getElem hk] at hl
    obtain rfl := Option.some.inj hl
    exact ⟨a, c, rfl, h3, h4⟩)
  refine ⟨(List.range ls.length).map f, ⟨by simp, fun k v l hv hl => ?_⟩, fun k hk => ?_⟩
  · have hk : k < ls.length := (List.getElem?_eq_some_iff.1 hl).1
    simp [hk] at hv
    subst hv
    exact (hf k hk).2 l hl
  · have hk' : k < ls.length := by simpa using hk
    simpa using (hf k hk').1
theorem own_parts {w : World} {B g n c : Nat} {vs : List Value} {ls : List (List Int)} (h : w.ownsRow B 22 1 (.slice (some ⟨g, 0, none⟩) n c) n vs) (hs : PartsOf w vs ls) : PartsAt w (some ⟨g, 0, none⟩) ls := by
  intro k hk
  have hkv : k < vs.length := by rw [hs.1]; exact hk
  obtain ⟨a, c', h1, h2, h3⟩ := hs.2 k vs[k] ls[k] (List.getElem?_eq_getElem hkv) (List.getElem?_eq_getElem hk)
  refine ⟨g, 0, a, c', rfl, ?_, h2, h3⟩
  have := h.cells (g := g) rfl k vs[k] (List.getElem?_eq_getElem hkv)
  rw [Addr.add_lit] at this
  rw [this, h1]
theorem one_prt (a : Option Addr) (l c : Nat) : ∀ u ∈ [Value.slice a l c], u.oneCell' = true := by intro u hu; simp at hu; subst hu; rfl


end Go.Proofs.Qxb6614903a
