import Derived.Test.Qxb6614794aLeaf
namespace Go.Proofs.Qxb6614794a
open Go.RowKit

/-! ### Plain lists -/
theorem flat_at {α β : Type} (f : α → List β) (s : Nat) (hf : ∀ x, (f x).length = s) (l : List α) (r c : Nat) (hr : r < l.length) (hc : c < s) : (l.flatMap f)[r * s + c]? = (f l[r])[c]? := by
  induction l generalizing r with
  | nil => simp at hr
  | cons x l ih =>
    rw [List.flatMap_cons]
    cases r with
    | zero => simp [List.getElem?_append, hf, hc]
    | succ r =>
      have := ih r (by simpa using hr)
      rw [List.getElem?_append_right (by rw [hf, Nat.succ_mul]; omega)]
      rw [hf, show (r + 1) * s + c - s = r * s + c by rw [Nat.succ_mul]; omega]
      simpa using this

theorem hp_len (p : Part) : (hpCells p).length = 8 := rfl
theorem dp_len1 (p : Part) : (dpCells p).length = 13 := rfl

/-! ### Memory -/
/-- Seven cells of one part as it came in. -/
def PartAt (w : World) (g o : Nat) (p : Part) : Prop :=
  w.cell? ⟨g, o, none⟩ = some (.string p.id) ∧ w.cell? ⟨g, o + 1, none⟩ = some (.string p.acc) ∧ w.cell? ⟨g, o + 2, none⟩ = some (.string p.cls) ∧ w.cell? ⟨g, o + 3, none⟩ = some (.string p.outl) ∧
  w.cell? ⟨g, o + 4, none⟩ = some (.int .i32 p.due) ∧ w.cell? ⟨g, o + 5, none⟩ = some (.int .i32 p.traded) ∧ w.cell? ⟨g, o + 6, none⟩ = some (.int .i64 p.shares)

theorem PartAt.below {w w' : World} {B g o : Nat} {p : Part} (h : PartAt w g o p) (hb : Below B w w') (hg : g < B) : PartAt w' g o p := by
  obtain ⟨h1, h2, h3, h4, h5, h6, h7⟩ := h
  exact ⟨(hb.cell hg).trans h1, (hb.cell hg).trans h2, (hb.cell hg).trans h3, (hb.cell hg).trans h4, (hb.cell hg).trans h5, (hb.cell hg).trans h6, (hb.cell hg).trans h7⟩

/-- A slice's address at which the parts lie (of no parts nothing is said). -/
def PartsAt (w : World) (ao : Option Addr) (ps : List Part) : Prop :=
  ∀ k (hk : k < ps.length), ∃ b off, ao = some ⟨b, off, none⟩ ∧ PartAt w b (off + k * 7) ps[k]

theorem PartsAt.below {w w' : World} {ao : Option Addr} {ps : List Part} (h : PartsAt w ao ps) (hb : Below w.heap.size w w') : PartsAt w' ao ps := by
  intro k hk
  obtain ⟨b, off, h1, h2⟩ := h k hk
  exact ⟨b, off, h1, h2.below hb (World.block_lt_of_cell? w _ h2.1)⟩

/-- An owned row of handed parts, read part by part. -/
theorem own_hp {w : World} {B j : Nat} {hv : Value} {l : List Part} (h : w.ownsRow B 70 8 hv j (l.flatMap hpCells)) {g : Nat} (hg : hv.ownBlock = some g) (r : Nat) (hr : r < l.length) : HpAt w g (r * 8) l[r] := by
  have key : ∀ c (hc : c < 8) u, (hpCells l[r])[c]? = some u → w.cell? ⟨g, r * 8 + c, none⟩ = some u := by
    intro c hc u hu
    have := h.cells hg (r * 8 + c) u (by rw [flat_at hpCells 8 hp_len l r c hr hc]; exact hu)
    rwa [Addr.add_lit, Nat.zero_add] at this
  exact ⟨key 0 (by decide) _ rfl, key 1 (by decide) _ rfl, key 2 (by decide) _ rfl, key 3 (by decide) _ rfl, key 4 (by decide) _ rfl, key 5 (by decide) _ rfl, key 6 (by decide) _ rfl, key 7 (by decide) _ rfl⟩

/-- The chunks that are done: chunk i has 'len i' parts, those from i * 4096 on; none of their blocks is that of 'cv', nor 'hb'. -/
def ChunksOk (w : World) (ps : List Part) (m : Nat) (cs : List Value) (cb : Option Nat) (len : Nat → Nat) (hb : Option Nat) : Prop :=
  ∀ i, i < m → ∃ g cap, cs[i]? = some (.slice (some ⟨g, 0, none⟩) (len i) cap) ∧ some g ≠ cb ∧ some g ≠ hb ∧ g < w.heap.size ∧ ∀ r, r < len i → ∃ p, ps[i * 4096 + r]? = some p ∧ HpAt w g (r * 8) p

/-- A part is appended to the chunk at hand. -/
theorem ChunksOk.grow {w w' : World} {ps : List Part} {m : Nat} {cs : List Value} {cb hb hb' : Option Nat} {len : Nat → Nat} (h : ChunksOk w ps m cs cb len hb) (hg : w.grownBy w' hb)
    (hb1 : hb' = hb ∨ ∃ g', hb' = some g' ∧ w.heap.size ≤ g') : ChunksOk w' ps m cs cb len hb' := by
  intro i hi
  obtain ⟨g, cap, h1, h2, h3, h4, h5⟩ := h i hi
  refine ⟨g, cap, h1, h2, ?_, Nat.lt_of_lt_of_le h4 hg.size, fun r hr => ?_⟩
  · rcases hb1 with rfl | ⟨g', rfl, hge⟩
    · exact h3
    · simp; omega
  · obtain ⟨p, hp1, hp2⟩ := h5 r hr
    exact ⟨p, hp1, hp2.grown hg h3⟩

/-- Nothing old turns. -/
theorem ChunksOk.below {w w' : World} {ps : List Part} {m : Nat} {cs : List Value} {cb hb : Option Nat} {len : Nat → Nat} (h : ChunksOk w ps m cs cb len hb) (hg : Below w.heap.size w w') : ChunksOk w' ps m cs cb len hb := by
  intro i hi
  obtain ⟨g, cap, h1, h2, h3, h4, h5⟩ := h i hi
  refine ⟨g, cap, h1, h2, h3, Nat.lt_of_lt_of_le h4 hg.size, fun r hr => ?_⟩
  obtain ⟨p, hp1, hp2⟩ := h5 r hr
  exact ⟨p, hp1, hp2.below hg h4⟩

/-- The chunk at hand is appended to the chunks. -/
theorem ChunksOk.push {w w' : World} {ps : List Part} {m : Nat} {cs : List Value} {cb cb' : Option Nat} {len : Nat → Nat} {B j : Nat} {hv : Value} (h : ChunksOk w ps m cs cb len hv.ownBlock) (hm : cs.length = m)
    (hown : w.ownsRow B 70 8 hv j (((ps.drop (m * 4096)).take j).flatMap hpCells)) (hj : 0 < j) (hjl : m * 4096 + j ≤ ps.length) (hlen : len m = j) (hsep : cb = none ∨ cb ≠ hv.ownBlock)
    (hg : w.grownBy w' cb) (hb1 : cb' = cb ∨ ∃ g', cb' = some g' ∧ w.heap.size ≤ g') : ChunksOk w' ps (m + 1) (cs ++ [hv]) cb' len none := by
  intro i hi
  by_cases him : i < m
  · obtain ⟨g, cap, h1, h2, h3, h4, h5⟩ := h i him
    refine ⟨g, cap, by rw [List.getElem?_append_left (by omega)]; exact h1, ?_, by simp, Nat.lt_of_lt_of_le h4 hg.size, fun r hr => ?_⟩
    · rcases hb1 with rfl | ⟨g', rfl, hge⟩
      · exact h2
      · simp; omega
    · obtain ⟨p, hp1, hp2⟩ := h5 r hr
      exact ⟨p, hp1, hp2.grown hg h2⟩
  · have : i = m := by omega
    subst this
    obtain ⟨g, cap, rfl, hBg, hgl⟩ := hown.form hj
    have hgc : some g ≠ cb := by
      rcases hsep with rfl | hs
      · simp
      · exact fun e => hs (by rw [← e]; rfl)
    refine ⟨g, cap, by rw [List.getElem?_append_right (by omega), hm, hlen]; simp, ?_, by simp, Nat.lt_of_lt_of_le hgl hg.size, fun r hr => ?_⟩
    · rcases hb1 with rfl | ⟨g', rfl, hge⟩
      · exact hgc
      · simp; omega
    · rw [hlen] at hr
      have hr' : r < ((ps.drop (i * 4096)).take j).length := by simp; omega
      have := own_hp hown (g := g) rfl r hr'
      refine ⟨_, ?_, this.grown hg hgc⟩
      rw [List.getElem_take, List.getElem_drop]
      exact List.getElem?_eq_getElem _

theorem chunksOk_zero (w : World) (ps : List Part) (cb : Option Nat) (len : Nat → Nat) (hb : Option Nat) : ChunksOk w ps 0 [] cb len hb := fun i hi => by omega

/-- What the loop of buildRegister keeps: q chunks are full, the chunk at hand has j parts. -/
def BInv (B : Nat) (w : World) (ps : List Part) (q j : Nat) (cv hv : Value) : Prop :=
  (∃ cs, w.ownsRow B 43 1 cv q cs ∧ ChunksOk w ps q cs cv.ownBlock (fun _ => 4096) hv.ownBlock) ∧
    w.ownsRow B 70 8 hv j (((ps.drop (q * 4096)).take j).flatMap hpCells) ∧ (cv.ownBlock = none ∨ cv.ownBlock ≠ hv.ownBlock)

theorem binv_grow {B : Nat} {w w' : World} {ps : List Part} {q j g cap : Nat} {cv hv : Value} (h : BInv B w ps q j cv hv) (hk : q * 4096 + j < ps.length)
    (hown' : w'.ownsRow B 70 8 (.slice (some ⟨g, 0, none⟩) (j + 1) cap) (j + 1) (((ps.drop (q * 4096)).take j).flatMap hpCells ++ hpCells ps[q * 4096 + j]))
    (hg : w.grownBy w' hv.ownBlock) (hat : hv.ownBlock = some g ∨ w.heap.size ≤ g) : BInv B w' ps q (j + 1) cv (.slice (some ⟨g, 0, none⟩) (j + 1) cap) := by
  obtain ⟨⟨cs, hcv, hco⟩, hown, hsep⟩ := h
  have hb1 : (Value.slice (some ⟨g, 0, none⟩) (j + 1) cap).ownBlock = hv.ownBlock ∨ ∃ g', (Value.slice (some ⟨g, 0, none⟩) (j + 1) cap).ownBlock = some g' ∧ w.heap.size ≤ g' := by
    rcases hat with h | h
    · exact .inl h.symm
    · exact .inr ⟨g, rfl, h⟩
  refine ⟨⟨cs, hcv.kept hg hsep, hco.grow hg hb1⟩, ?_, ?_⟩
  · have : (ps.drop (q * 4096)).take (j + 1) = (ps.drop (q * 4096)).take j ++ [ps[q * 4096 + j]] := by
      rw [List.take_succ_eq_append_getElem (by simp; omega)]
      simp
    rw [this, List.flatMap_append]
    simpa using hown'
  · cases hc : cv.ownBlock with
    | none => exact .inl rfl
    | some c =>
      right
      have hcl := (hcv.lt c hc).2
      rcases hat with h | h
      · rcases hsep with e | e
        · rw [hc] at e; cases e
        · rw [hc, h] at e; exact e
      · simp [Value.ownBlock]; omega

theorem binv_push {B : Nat} {w w' : World} {ps : List Part} {q g cap : Nat} {cv hv : Value} {cs : List Value} (hcv : w.ownsRow B 43 1 cv q cs) (hco : ChunksOk w ps q cs cv.ownBlock (fun _ => 4096) hv.ownBlock)
    (hown : w.ownsRow B 70 8 hv 4096 (((ps.drop (q * 4096)).take 4096).flatMap hpCells)) (hsep : cv.ownBlock = none ∨ cv.ownBlock ≠ hv.ownBlock) (hk : q * 4096 + 4096 ≤ ps.length)
    (hcv' : w'.ownsRow B 43 1 (.slice (some ⟨g, 0, none⟩) (q + 1) cap) (q + 1) (cs ++ [hv])) (hg : w.grownBy w' cv.ownBlock) (hat : cv.ownBlock = some g ∨ w.heap.size ≤ g) :
    BInv B w' ps (q + 1) 0 (.slice (some ⟨g, 0, none⟩) (q + 1) cap) (.slice none 0 0) := by
  refine ⟨⟨cs ++ [hv], hcv', ?_⟩, ?_, .inr (by simp [Value.ownBlock])⟩
  · refine hco.push (by simpa using hcv.1) hown (by decide) hk rfl hsep hg ?_
    rcases hat with h | h
    · exact .inl h.symm
    · exact .inr ⟨g, rfl, h⟩
  · simpa using World.ownsRow_nil w' B 70 8

theorem BInv.below {B : Nat} {w w' : World} {ps : List Part} {q j : Nat} {cv hv : Value} (h : BInv B w ps q j cv hv) (hb : Below w.heap.size w w') : BInv B w' ps q j cv hv := by
  obtain ⟨⟨cs, hcv, hco⟩, hown, hsep⟩ := h
  exact ⟨⟨cs, own_below hcv hb, hco.below hb⟩, own_below hown hb, hsep⟩

/-- The register that is handed back. -/
theorem regOf_mk {w : World} {ps : List Part} {B m : Nat} {cv : Value} {cs : List Value} {len : Nat → Nat} {hb : Option Nat} {ca : Option Addr} {l ccap : Nat} (hv : cv = .slice ca l ccap) (hcv : w.ownsRow B 43 1 cv m cs)
    (hco : ChunksOk w ps m cs cv.ownBlock len hb) (hk : ∀ k, k < ps.length → k / 4096 < m ∧ k % 4096 < len (k / 4096)) (o : Array Value) (h12 : o[12]? = some (.slice ca l ccap)) (h13 : o[13]? = some (.int .i64 0)) (h14 : o[14]? = some (.int .i64 ps.length)) :
    RegOf (w.alloc (.cells o 67)) w.heap.size ps := by
  have hcell : ∀ j u, o[j]? = some u → (w.alloc (.cells o 67)).cell? ⟨w.heap.size, j, none⟩ = some u := by
    intro j u hu
    rw [cell_of_row _ w.heap.size j o 67 (0, 0) (heap_alloc_new w _)]
    exact hu
  refine ⟨ca, l, ccap, hcell 12 _ h12, hcell 13 _ h13, hcell 14 _ h14, fun k hkl => ?_⟩
  obtain ⟨hm, hr⟩ := hk k hkl
  obtain ⟨g, cap, h1, h2, h3, h4, h5⟩ := hco (k / 4096) hm
  obtain ⟨p, hp1, hp2⟩ := h5 (k % 4096) hr
  obtain ⟨gc, cc, hf, _, hgc⟩ := hcv.form (by omega)
  rw [hv] at hf
  obtain ⟨rfl, rfl, rfl⟩ := Value.slice.inj hf
  have e : k / 4096 * 4096 + k % 4096 = k := by omega
  rw [e] at hp1
  obtain ⟨_, rfl⟩ := List.getElem?_eq_some_iff.1 hp1
  refine ⟨gc, g, _, cap, rfl, hm, ?_, hr, hp2.alloc _⟩
  have := hcv.cells (g := gc) (by rw [hv]; rfl) (k / 4096) _ h1
  rw [Addr.add_lit, Nat.zero_add] at this
  rw [World.cell?_alloc_lt _ _ _ hgc]
  exact this

end Go.Proofs.Qxb6614794a
