import Derived.Test.Qxb6614881aGuard
namespace Go.Proofs.Qxb6614881a
open Go.RowKit

/-! ### Strings in order -/
theorem less_irrefl : ∀ l : List UInt8, Op.bytesLess l l = false
  | [] => rfl
  | a :: l => by
    simp only [Op.bytesLess, less_irrefl l, Bool.and_false, Bool.or_false]
    simp
theorem less_trans : ∀ a b c : List UInt8, Op.bytesLess a b = true → Op.bytesLess b c = true → Op.bytesLess a c = true
  | _, [], _, h, _ => by cases ‹List UInt8› <;> simp [Op.bytesLess] at h
  | _, _ :: _, [], _, h => by simp [Op.bytesLess] at h
  | [], _ :: _, _ :: _, _, _ => rfl
  | x :: a, y :: b, z :: c, h1, h2 => by
    simp only [Op.bytesLess, Bool.or_eq_true, decide_eq_true_eq, Bool.and_eq_true, beq_iff_eq] at h1 h2 ⊢
    rcases h1 with h1 | ⟨rfl, h1⟩
    · rcases h2 with h2 | ⟨rfl, _⟩
      · exact .inl (UInt8.lt_trans h1 h2)
      · exact .inl h1
    · rcases h2 with h2 | ⟨rfl, h2⟩
      · exact .inl h2
      · exact .inr ⟨rfl, less_trans a b c h1 h2⟩
theorem lt_irrefl (a : ByteArray) : lt a a = false := less_irrefl _
theorem lt_trans {a b c : ByteArray} (h1 : lt a b = true) (h2 : lt b c = true) : lt a c = true := less_trans _ _ _ h1 h2

theorem sorted_lt {ts : List ByteArray} (h : SortedTo ts ts.length) : ∀ (d i : Nat) (hj : i + d + 1 < ts.length), lt ts[i] ts[i + d + 1] = true
  | 0, i, hj => h i hj hj
  | d + 1, i, hj => lt_trans (sorted_lt h d i (by omega)) (h (i + d + 1) (by omega) (by omega))
theorem sorted_ij {ts : List ByteArray} (h : SortedTo ts ts.length) (i j : Nat) (hij : i < j) (hj : j < ts.length) : lt ts[i] ts[j] = true := by
  obtain ⟨d, rfl⟩ : ∃ d, j = i + d + 1 := ⟨j - i - 1, by omega⟩
  exact sorted_lt h d i hj

/-! ### The map's function -/
theorem fto_none {ts : List ByteArray} {ws : List Bool} {ls : List (List ByteArray)} {k : ByteArray} : ∀ i, (∀ j, j < i → (k.toList == (ts.getD j .empty).toList) = false) → FTo ts ws ls i k = none
  | 0, _ => rfl
  | i + 1, h => by
    rw [FTo, h i (by omega)]
    exact fto_none i (fun j hj => h j (by omega))
theorem fto_at {ts : List ByteArray} {ws : List Bool} {ls : List (List ByteArray)} {k : ByteArray} {p : Nat} (hp : (k.toList == (ts.getD p .empty).toList) = true) : ∀ i, p < i → (∀ j, p < j → j < i → (k.toList == (ts.getD j .empty).toList) = false) → FTo ts ws ls i k = some (ws.getD p false, ls.getD p [])
  | 0, h, _ => by omega
  | i + 1, h, hn => by
    by_cases e : i = p
    · subst e; rw [FTo, if_pos hp]
    · rw [FTo, hn i (by omega) (by omega)]
      exact fto_at hp i (by omega) (fun j h1 h2 => hn j h1 (by omega))

/-- A list with x put in at p; f elements are left out behind it. -/
def ins {α : Type} (l : List α) (x : α) (p f : Nat) : List α := l.take p ++ x :: l.drop (p + f)
theorem ins_len {α : Type} (l : List α) (x : α) (p f : Nat) (h : p + f ≤ l.length) : (ins l x p f).length = l.length + 1 - f := by
  simp [ins]; omega
theorem ins_getD_at {α : Type} (l : List α) (x d : α) (p f : Nat) (h : p ≤ l.length) : (ins l x p f).getD p d = x := by
  simp [ins, List.getD, Nat.min_eq_left h]
theorem ins_getD_gt {α : Type} (l : List α) (x d : α) (p f j : Nat) (h : p ≤ l.length) (hj : p < j) : (ins l x p f).getD j d = l.getD (j - 1 + f) d := by
  obtain ⟨q, rfl⟩ : ∃ q, j = p + 1 + q := ⟨j - p - 1, by omega⟩
  have e1 : p + 1 + q - min p l.length = q + 1 := by omega
  simp only [ins, List.getD]
  rw [List.getElem?_append_right (by simp; omega)]
  simp only [List.length_take, e1, List.getElem?_cons_succ, List.getElem?_drop]
  rw [show p + f + q = p + 1 + q - 1 + f by omega]

/-- What the search for the table's place has found. -/
structure Place (ts : List ByteArray) (table : ByteArray) (pos : Nat) (found : Bool) : Prop where
  le : pos ≤ ts.length
  below : ∀ j (hj : j < ts.length), j < pos → lt ts[j] table = true
  stop : ∀ (h : pos < ts.length), lt ts[pos] table = false
  found_iff : found = true ↔ ∃ h : pos < ts.length, ts[pos] = table

theorem Place.other {ts : List ByteArray} {table : ByteArray} {pos : Nat} {found : Bool} (h : Place ts table pos found) (hs : SortedTo ts ts.length) (j : Nat) (hj : j < ts.length) (hne : ¬ (j = pos ∧ found = true)) : ¬ table = ts[j] := by
  intro e
  rcases Nat.lt_trichotomy j pos with hlt | rfl | hgt
  · have := h.below j hj hlt
    rw [← e, lt_irrefl] at this
    cases this
  · exact hne ⟨rfl, h.found_iff.2 ⟨hj, e.symm⟩⟩
  · have h1 := sorted_ij hs pos j hgt hj
    rw [← e, h.stop (by omega)] at h1
    cases h1

theorem old_at {ts : List ByteArray} {ws : List Bool} {ls : List (List ByteArray)} {table : ByteArray} {pos : Nat} {found : Bool} (h : Place ts table pos found) (hs : SortedTo ts ts.length) :
    FTo ts ws ls ts.length table = if found then some (ws.getD pos false, ls.getD pos []) else none := by
  have hget : ∀ j (hj : j < ts.length), ts.getD j .empty = ts[j] := fun j hj => by simp [List.getD, hj]
  cases hf : found with
  | true =>
    obtain ⟨hp, e⟩ := h.found_iff.1 hf
    rw [if_pos rfl]
    refine fto_at ?_ _ hp (fun j h1 h2 => ?_)
    · rw [hget pos hp, e]; simp
    · rw [hget j h2]
      exact beq_ne (h.other hs j h2 (by omega))
  | false =>
    rw [if_neg (by simp)]
    refine fto_none _ (fun j hj => ?_)
    rw [hget j hj]
    exact beq_ne (h.other hs j hj (by simp [hf]))

theorem new_at {ts : List ByteArray} {ws : List Bool} {ls : List (List ByteArray)} {table : ByteArray} {pos : Nat} {found : Bool} (h : Place ts table pos found) (hs : SortedTo ts ts.length) (hw : ws.length = ts.length) (hl : ls.length = ts.length) (lx : List ByteArray)
    (f : Nat) (hf : f = if found then 1 else 0) : FTo (ins ts table pos f) (ins ws true pos f) (ins ls lx pos f) (ins ts table pos f).length table = some (true, lx) := by
  have hle := h.le
  have hpf : pos + f ≤ ts.length := by
    cases hfo : found with
    | true => obtain ⟨hp, _⟩ := h.found_iff.1 hfo; rw [hfo] at hf; simp at hf; omega
    | false => rw [hfo] at hf; simp at hf; omega
  have := fto_at (ts := ins ts table pos f) (ws := ins ws true pos f) (ls := ins ls lx pos f) (k := table) (p := pos) (by rw [ins_getD_at _ _ _ _ _ hle]; simp) (ins ts table pos f).length
    (by rw [ins_len _ _ _ _ hpf]; omega) (fun j h1 h2 => by
      rw [ins_len _ _ _ _ hpf] at h2
      rw [ins_getD_gt _ _ _ _ _ _ hle h1]
      have hj : j - 1 + f < ts.length := by omega
      have hg : ts.getD (j - 1 + f) .empty = ts[j - 1 + f] := by simp [List.getD, hj]
      rw [hg]
      refine beq_ne (h.other hs _ hj ?_)
      rintro ⟨e, hfo⟩
      rw [hfo] at hf
      simp at hf
      omega)
  rw [this, ins_getD_at _ _ _ _ _ (by omega), ins_getD_at _ _ _ _ _ (by omega)]

/-! ### The law, plain -/
def isRes (p : ByteArray) : Bool := isRealm p || isOwner p
theorem plain4 (ev mw b : Bool) (ms lx : List ByteArray) (U : Option (Bool × List ByteArray)) (table : ByteArray) (ps : List ByteArray) (hU : (U = none ∧ lx = []) ∨ U = some (b, lx)) :
    (ev || mayB mw ms (some (true, lx)) table ps) = (ev || mayB mw ms U table (ps.filter isRes)) ∧ (ev || mayB mw ms (some (true, lx)) table (ps.filter fun p => !isRes p)) = true ∧
      ((ev || mayB mw ms U table ps) = true → (ev || mayB mw ms (some (true, lx)) table ps) = true) := by
  have hc : ∀ p, cov (some (true, lx)) p = (has lx p || !isRes p) := fun p => by simp [cov, covers, isRes]
  have hr : ∀ p, isRes p = true → cov U p = has lx p := fun p hp => by
    rcases hU with ⟨rfl, rfl⟩ | rfl
    · simp [cov, has]
    · have : (isRealm p || isOwner p) = true := hp
      simp [cov, covers, this]
  have hall : ps.all (cov (some (true, lx))) = (ps.filter isRes).all (cov U) := by
    induction ps with
    | nil => rfl
    | cons p ps ih =>
      rw [List.all_cons, hc, ih]
      cases hp : isRes p with
      | true => rw [List.filter_cons_of_pos hp, List.all_cons, hr p hp]; simp
      | false => rw [List.filter_cons_of_neg (by simp [hp])]; simp
  refine ⟨?_, ?_, ?_⟩
  · unfold mayB; rw [hall]
  · have : (ps.filter fun p => !isRes p).all (cov (some (true, lx))) = true := by
      rw [List.all_eq_true]
      intro p hp
      have := (List.mem_filter.1 hp).2
      rw [hc, this]; simp
    unfold mayB; rw [this]; simp
  · intro h
    have himp : ps.all (cov U) = true → ps.all (cov (some (true, lx))) = true := by
      intro h2
      rw [List.all_eq_true] at h2 ⊢
      intro p hp
      rw [hc]
      cases hp2 : isRes p with
      | true => rw [← hr p hp2, h2 p hp]; rfl
      | false => simp
    unfold mayB at h ⊢
    cases ev <;> cases hm : (mw || has ms table) <;> simp_all
end Go.Proofs.Qxb6614881a
