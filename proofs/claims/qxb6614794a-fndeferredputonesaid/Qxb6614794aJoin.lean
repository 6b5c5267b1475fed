import Derived.Test.Qxb6614794aLawA
import Derived.Carry
import Derived.OpenShut
import Derived.Deep.Slices
namespace Go.Proofs.Qxb6614794a
open Go.ChangeShapes Go.WideShapes Go.ChangeAt Go.RowKit Go.Deep

theorem Try.cells27 : Try.prog.cellsOf 27 = 7 := by kernel_rfl
theorem Try.cells9 : Try.prog.cellsOf 9 = 1 := by kernel_rfl
theorem Try.cells21 : Try.prog.cellsOf 21 = 1 := by kernel_rfl
theorem Try.cells2 : Try.prog.cellsOf 2 = 1 := by kernel_rfl
theorem Try.laidOut : laidOutB Try.prog = true := by kernel_rfl

section
variable {H : Type} {enc : TypeId × Value → H} {w : World} {base : Nat} {spare : Nat → Bool} {held : Bool}
/-- A part's seven cells, read as data, are four strings and three numbers. -/
theorem part_of_trod {fuel : Nat} {cs : List Value} {x : DataW H × List MemPlace} (h : DataW.trod enc Try.prog w base spare held fuel 27 cs = some x) :
    ∃ p : Part, cs = [.string p.id, .string p.acc, .string p.cls, .string p.outl, .int .i32 p.due, .int .i32 p.traded, .int .i64 p.shares] := by
  obtain ⟨xs, n, _, _, hl, hlen, hf⟩ := DataW.trod_struct Try.underlying27 h
  rw [Try.cells27] at hl
  match cs, hl with
  | [c0, c1, c2, c3, c4, c5, c6], _ =>
  match xs, hlen with
  | [y0, y1, y2, y3, y4, y5, y6], _ =>
    have f0 : DataW.trod enc Try.prog w base spare held n 9 [c0] = some y0 := by simpa [Try.cells9] using hf 0 _ rfl
    have f1 : DataW.trod enc Try.prog w base spare held n 9 [c1] = some y1 := by simpa [Try.cells9] using hf 1 _ rfl
    have f2 : DataW.trod enc Try.prog w base spare held n 9 [c2] = some y2 := by simpa [Try.cells9] using hf 2 _ rfl
    have f3 : DataW.trod enc Try.prog w base spare held n 9 [c3] = some y3 := by simpa [Try.cells9] using hf 3 _ rfl
    have f4 : DataW.trod enc Try.prog w base spare held n 21 [c4] = some y4 := by simpa [Try.cells21] using hf 4 _ rfl
    have f5 : DataW.trod enc Try.prog w base spare held n 21 [c5] = some y5 := by simpa [Try.cells21] using hf 5 _ rfl
    have f6 : DataW.trod enc Try.prog w base spare held n 2 [c6] = some y6 := by simpa [Try.cells2] using hf 6 _ rfl
    obtain ⟨s0, e0, -⟩ := DataW.trod_string Try.underlying9 f0
    obtain ⟨s1, e1, -⟩ := DataW.trod_string Try.underlying9 f1
    obtain ⟨s2, e2, -⟩ := DataW.trod_string Try.underlying9 f2
    obtain ⟨s3, e3, -⟩ := DataW.trod_string Try.underlying9 f3
    obtain ⟨s4, e4, -⟩ := DataW.trod_int Try.underlying21 f4
    obtain ⟨s5, e5, -⟩ := DataW.trod_int Try.underlying21 f5
    obtain ⟨s6, e6, -⟩ := DataW.trod_int Try.underlying2 f6
    simp only [List.cons.injEq, and_true] at e0 e1 e2 e3 e4 e5 e6
    subst e0 e1 e2 e3 e4 e5 e6
    exact ⟨⟨s0, s1, s2, s3, s4, s5, s6⟩, rfl⟩

/-- The first argument, opened. -/
theorem parts_of_trod {v : Value} {d : DataW H} {p : List MemPlace} (hv : ∃ a l c, v = .slice a l c) (h : DataW.Trod enc Try.prog w base spare held 22 v d p) :
    ∃ (ao : Option Addr) (cap : Nat) (ps : List Part), v = .slice ao ps.length cap ∧ ps.length ≤ cap ∧ cap ≤ maxLen ∧ PartsAt w ao ps := by
  obtain ⟨a0, l0, c0, rfl⟩ := hv
  obtain ⟨fuel, hf⟩ := h
  rcases open_slice Try.underlying22 hf with ⟨hcs, _⟩ | ⟨a, len, cap, m, n, D, Pl, hcs, _, hl, hm, hmm, _, hx⟩
  · simp [Value.cells] at hcs
    obtain ⟨rfl, rfl, rfl⟩ := hcs
    exact ⟨none, 0, [], rfl, Nat.le_refl _, Nat.zero_le _, fun k hk => by simp at hk⟩
  · simp [Value.cells] at hcs
    obtain ⟨rfl, rfl, rfl⟩ := hcs
    have hlm : l0 ≤ m := by rw [hmm]; split <;> omega
    have each : ∀ i, i < l0 → ∃ q : Part, ∀ j u, [Value.string q.id, .string q.acc, .string q.cls, .string q.outl, .int .i32 q.due, .int .i32 q.traded, .int .i64 q.shares][j]? = some u → w.cell? (a.add (i * 7 + j)) = some u := by
      intro i hi
      obtain ⟨cs', h1, h2⟩ := hx i (by omega)
      rw [Try.cells27] at h1
      obtain ⟨q, rfl⟩ := part_of_trod h2
      obtain ⟨_, _, h3⟩ := World.cells?_some h1
      refine ⟨q, fun j u hu => ?_⟩
      have hj : j < 7 := by
        have := (List.getElem?_eq_some_iff.1 hu).1
        simpa using this
      rw [← add_add, h3 j hj, hu]
    obtain ⟨f, hf'⟩ := @choose_lt Part ⟨⟨.empty, .empty, .empty, .empty, 0, 0, 0⟩⟩ l0 (p := fun i q => ∀ j u, [Value.string q.id, .string q.acc, .string q.cls, .string q.outl, .int .i32 q.due, .int .i32 q.traded, .int .i64 q.shares][j]? = some u → w.cell? (a.add (i * 7 + j)) = some u) each
    refine ⟨some a, c0, (List.range l0).map f, by simp, by simpa using hl, hm, fun k hk => ?_⟩
    have hk' : k < l0 := by simpa using hk
    obtain ⟨b, off, spot⟩ := a
    have h0 := hf' k hk'
    have hspot : spot = none := by
      have := hf' 0 (by omega) 0 _ rfl
      simpa [Addr.add] using World.cell?_spot this
    subst hspot
    simp only [Addr.add_lit] at h0
    refine ⟨b, off, rfl, ?_⟩
    simp only [List.getElem_map, List.getElem_range]
    exact ⟨by simpa using h0 0 _ rfl, by simpa [Nat.add_assoc] using h0 1 _ rfl, by simpa [Nat.add_assoc] using h0 2 _ rfl, by simpa [Nat.add_assoc] using h0 3 _ rfl, by simpa [Nat.add_assoc] using h0 4 _ rfl, by simpa [Nat.add_assoc] using h0 5 _ rfl, by simpa [Nat.add_assoc] using h0 6 _ rfl⟩
end

theorem own : ownKnob Try.prog.godebug = none := by kernel_rfl

set_option maxRecDepth 100000 in
theorem join_lifted (os : Os) (started : os.Started) (H : Type) (enc : TypeId × Value → H) :
    ReturnsInHanded {} Try.checked os 3 .any (Rows.fnDeferredJoinSpec.pre6 enc Try.prog Try.f3 Rows.fnDeferredJoinRow.domain false) (Rows.fnDeferredJoinSpec.post enc Try.prog Try.f3 false true false false) := by
  refine returnsInHanded_of_change (C := Try.checked) own started (by kernel_rfl) Try.func3
    (ChangeSpec.witness6 (enc := enc) (C := Try.checked) false ⟨#[], #[.slice none 0 0, .int .i64 0], []⟩ 8 (by kernel_rfl) (by kernel_rfl) (by kernel_rfl) (by kernel_rfl)) ?_
  intro W base args ds gs before hval0 hW hcnd _
  have hval : ∀ (j : Nat) t v, Try.f3.params[j]? = some t → args[j]? = some v → Value.okWide Try.prog W .any base t v := hval0
  have hW' := hW
  obtain ⟨p, q, hA0, hV, rfl, hfz, hnd⟩ := hW
  have hA : DataW.TrodAll enc Try.prog W 0 (fun _ => true) true Try.f3.params.toList args.toList ds p := hA0
  rw [Try.params3] at hA hval
  obtain ⟨v0, vs0, d0, ds0, p0, q0, hargs, rfl, rfl, h0, r0⟩ := trodAll_cons hA
  obtain ⟨v1, vs1, d1, ds1, p1, q1, rfl, rfl, rfl, h1, r1⟩ := trodAll_cons r0
  obtain ⟨rfl, rfl, rfl⟩ := trodAll_nil r1
  obtain rfl : args = #[v0, v1] := by cases args; simp_all
  obtain ⟨rfl, rfl⟩ := trodVars_none hV
  have k0 := h0
  have lt0 : ∀ x ∈ p0, x.block < W.heap.size := by obtain ⟨m, hm⟩ := k0; exact DataW.trod_lt m _ _ _ hm
  obtain ⟨ao, cap, ps, rfl, hl, hm, hP⟩ := parts_of_trod (okWide_slice Try.underlying22 (hval 0 22 v0 rfl rfl)) h0
  obtain ⟨a1, rfl, rfl, rfl, w1⟩ := open_int Try.underlying3 (hval 1 3 v1 rfl rfl) h1
  clear hA0 hval0
  refine (law3 ao cap a1 ps W hl hm hP).mono fun e W' ⟨he, bel⟩ => ?_
  subst he
  exact ⟨_, rfl, _, _, _, [], _, [], hW', trodAll_mk1 (shut_bool Try.underlying4 _), (trodAll_cons_mk (Below.trod Try.laidOut (by kernel_rfl) (of_decide_eq_true (by kernel_rfl)) k0 bel lt0) (trodAll_cons_mk (shut_int Try.underlying3 w1) trodAll_mk0)), rfl, bel.frame _, fun h => by cases h⟩

theorem join_over : Rows.fnDeferredJoinRow.holds Try.pinned (OpenSpec.ofChange Rows.fnDeferredJoinSpec) :=
  OpenClaim.holds_of_wide 3 Try.f3 rfl rfl rfl rfl rfl rfl rfl ⟨rfl, rfl, rfl, rfl, rfl⟩ rfl rfl rfl rfl rfl (by kernel_rfl) Try.func3 (by kernel_rfl)
    (of_decide_eq_true (by kernel_rfl)) (by unfold Func.isWrapper; first | (rw [if_pos (by decide +kernel)]; kernel_rfl) | (rw [if_neg (by decide +kernel)]; exact ⟨rfl, rfl⟩))
    (fun os started H enc _ => join_lifted os started H enc)

theorem fnDeferredJoin_proved : Rows.FnDeferredJoinSaid := join_over
end Go.Proofs.Qxb6614794a
