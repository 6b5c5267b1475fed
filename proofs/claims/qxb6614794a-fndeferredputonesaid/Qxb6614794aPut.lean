import Derived.Test.Qxb6614794aLawB
import Derived.Test.Qxb6614794aJoin
namespace Go.Proofs.Qxb6614794a
open Go.ChangeShapes Go.WideShapes Go.ChangeAt Go.RowKit Go.Deep

section
variable {H : Type} {enc : TypeId × Value → H} {w : World} {base : Nat} {spare : Nat → Bool} {held : Bool}
theorem nil_of_trod {ao : Option Addr} {l c : Nat} {d : DataW H} {p : List MemPlace} (h : DataW.Trod enc Try.prog w base spare held 22 (.slice ao l c) d p) : ao = none → c = 0 := by
  rintro rfl
  obtain ⟨fuel, hf⟩ := h
  rcases open_slice Try.underlying22 hf with ⟨hcs, _⟩ | ⟨a, len, cap, m, n, D, Pl, hcs, _⟩
  · simp [Value.cells] at hcs
    exact hcs.2
  · simp [Value.cells] at hcs
end

set_option maxRecDepth 100000 in
theorem put_lifted (os : Os) (started : os.Started) (H : Type) (enc : TypeId × Value → H) :
    ReturnsInHanded {} Try.checked os 4 .any (Rows.fnDeferredPutOneSpec.pre6 enc Try.prog Try.f4 Rows.fnDeferredPutOneRow.domain false) (Rows.fnDeferredPutOneSpec.post enc Try.prog Try.f4 false true false false) := by
  refine returnsInHanded_of_change (C := Try.checked) own started (by kernel_rfl) Try.func4
    (ChangeSpec.witness6 (enc := enc) (C := Try.checked) false ⟨#[], #[.slice none 0 0, .agg #[.string ⟨#[]⟩, .string ⟨#[]⟩, .string ⟨#[]⟩, .string ⟨#[]⟩, .int .i32 0, .int .i32 0, .int .i64 0], .int .i64 0], []⟩ 8 (by kernel_rfl) (by kernel_rfl) (by kernel_rfl) (by kernel_rfl)) ?_
  intro W base args ds gs before hval0 hW hcnd _
  have hval : ∀ (j : Nat) t v, Try.f4.params[j]? = some t → args[j]? = some v → Value.okWide Try.prog W .any base t v := hval0
  have hW' := hW
  obtain ⟨p, q, hA0, hV, rfl, hfz, hnd⟩ := hW
  have hA : DataW.TrodAll enc Try.prog W 0 (fun _ => true) true Try.f4.params.toList args.toList ds p := hA0
  rw [Try.params4] at hA hval
  obtain ⟨v0, vs0, d0, ds0, p0, q0, hargs, rfl, rfl, h0, r0⟩ := trodAll_cons hA
  obtain ⟨v1, vs1, d1, ds1, p1, q1, rfl, rfl, rfl, h1, r1⟩ := trodAll_cons r0
  obtain ⟨v2, vs2, d2, ds2, p2, q2, rfl, rfl, rfl, h2, r2⟩ := trodAll_cons r1
  obtain ⟨rfl, rfl, rfl⟩ := trodAll_nil r2
  obtain rfl : args = #[v0, v1, v2] := by cases args; simp_all
  obtain ⟨rfl, rfl⟩ := trodVars_none hV
  have k0 := h0
  have k1 := h1
  have lt0 : ∀ x ∈ p0, x.block < W.heap.size := by obtain ⟨m, hm⟩ := k0; exact DataW.trod_lt m _ _ _ hm
  have lt1 : ∀ x ∈ p1, x.block < W.heap.size := by obtain ⟨m, hm⟩ := k1; exact DataW.trod_lt m _ _ _ hm
  obtain ⟨ao, cap, ps, rfl, hl, hm, hP⟩ := parts_of_trod (okWide_slice Try.underlying22 (hval 0 22 v0 rfl rfl)) h0
  have hnil := nil_of_trod k0
  obtain ⟨cs, rfl, hsz⟩ := okWide_struct Try.underlying27 (hval 1 27 v1 rfl rfl)
  obtain ⟨x, hx⟩ : ∃ x : Part, cs = #[.string x.id, .string x.acc, .string x.cls, .string x.outl, .int .i32 x.due, .int .i32 x.traded, .int .i64 x.shares] := by
    obtain ⟨fuel, hf⟩ := h1
    obtain ⟨x, hx⟩ := part_of_trod hf
    refine ⟨x, ?_⟩
    have : cs.toList = [Value.string x.id, .string x.acc, .string x.cls, .string x.outl, .int .i32 x.due, .int .i32 x.traded, .int .i64 x.shares] := hx
    rw [← Array.toArray_toList (xs := cs), this]
  subst hx
  obtain ⟨a2, rfl, rfl, rfl, w2⟩ := open_int Try.underlying3 (hval 2 3 v2 rfl rfl) h2
  clear hA0 hval0
  refine (law4 ao cap x a2 ps W hl hm hnil hP).mono fun e W' ⟨he, bel⟩ => ?_
  subst he
  exact ⟨_, rfl, _, _, _, [], _, [], hW', trodAll_mk1 (shut_bool Try.underlying4 _), (trodAll_cons_mk (Below.trod Try.laidOut (by kernel_rfl) (of_decide_eq_true (by kernel_rfl)) k0 bel lt0) (trodAll_cons_mk (Below.trod Try.laidOut (by kernel_rfl) (of_decide_eq_true (by kernel_rfl)) k1 bel lt1) (trodAll_cons_mk (shut_int Try.underlying3 w2) trodAll_mk0))), rfl, bel.frame _, fun h => by cases h⟩

theorem put_over : Rows.fnDeferredPutOneRow.holds Try.pinned (OpenSpec.ofChange Rows.fnDeferredPutOneSpec) :=
  OpenClaim.holds_of_wide 4 Try.f4 rfl rfl rfl rfl rfl rfl rfl ⟨rfl, rfl, rfl, rfl, rfl⟩ rfl rfl rfl rfl rfl (by kernel_rfl) Try.func4 (by kernel_rfl)
    (of_decide_eq_true (by kernel_rfl)) (by unfold Func.isWrapper; first | (rw [if_pos (by decide +kernel)]; kernel_rfl) | (rw [if_neg (by decide +kernel)]; exact ⟨rfl, rfl⟩))
    (fun os started H enc _ => put_lifted os started H enc)

theorem fnDeferredPutOne_proved : Rows.FnDeferredPutOneSaid := put_over
end Go.Proofs.Qxb6614794a
