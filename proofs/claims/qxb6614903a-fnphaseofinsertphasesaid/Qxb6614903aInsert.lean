import Derived.Test.Qxb6614903aLawB
import Derived.Test.Qxb6614903aOpen
import Derived.ShutString
namespace Go.Proofs.Qxb6614903a
open Go.ChangeShapes Go.WideShapes Go.ChangeAt Go.RowKit Go.Deep
open Go.ChangeMaps (open_string shut_string)

section
variable {H : Type} {enc : TypeId × Value → H} {w : World} {base : Nat} {spare : Nat → Bool} {held : Bool}
theorem nil_cap {t e : TypeId} (ht : Try.prog.underlying t = some (.slice e)) (hc : Try.prog.cellsOf e = 1) {ao : Option Addr} {n cap : Nat} {d : DataW H} {p : List MemPlace} (h : DataW.Trod enc Try.prog w base spare held t (.slice ao n cap) d p) : ao = none → cap = 0 := by
  obtain ⟨fuel, hf⟩ := h
  have hf' : DataW.trod enc Try.prog w base spare held fuel t [.slice ao n cap] = some (d, p) := by simpa [Value.cells] using hf
  rcases open_slice1 ht hc hf' with ⟨hcs, _⟩ | ⟨a, len, cap, m, n, V, D, Pl, hcs, _⟩
  · obtain ⟨rfl, rfl, rfl⟩ : ao = none ∧ n = 0 ∧ cap = 0 := by simpa using hcs
    exact fun _ => rfl
  · intro e
    subst e
    simp at hcs
end

set_option maxRecDepth 100000 in
set_option maxHeartbeats 4000000 in
theorem insert_lifted (os : Os) (started : os.Started) (H : Type) (enc : TypeId × Value → H) :
    ReturnsInHanded {} Try.checked os 6 .any (Rows.fnPhaseOfInsertPhaseSpec.pre6 enc Try.prog Try.f6 Rows.fnPhaseOfInsertPhaseRow.domain false) (Rows.fnPhaseOfInsertPhaseSpec.post enc Try.prog Try.f6 false true false false) := by
  refine returnsInHanded_of_change (C := Try.checked) own started (by kernel_rfl) Try.func6
    (ChangeSpec.witness6 (enc := enc) (C := Try.checked) false ⟨#[], #[(.slice none 0 0), (.int .i64 0), (.slice none 0 0), (.string ⟨#[]⟩)], []⟩ 8 (by kernel_rfl) (by kernel_rfl) (by kernel_rfl) (by kernel_rfl)) ?_
  intro W base args ds gs before hval0 hW hcnd _
  have hval : ∀ (j : Nat) t v, Try.f6.params[j]? = some t → args[j]? = some v → Value.okWide Try.prog W .any base t v := hval0
  have hW' := hW
  obtain ⟨p, q, hA0, hV, rfl, hfz, hnd⟩ := hW
  have hA : DataW.TrodAll enc Try.prog W 0 (fun _ => true) true Try.f6.params.toList args.toList ds p := hA0
  rw [Try.params6] at hA hval
  obtain ⟨v0, vs0, d0, ds0, p0, q0, hargs, rfl, rfl, h0, r0⟩ := trodAll_cons hA
  obtain ⟨v1, vs1, d1, ds1, p1, q1, rfl, rfl, rfl, h1, r1⟩ := trodAll_cons r0
  obtain ⟨v2, vs2, d2, ds2, p2, q2, rfl, rfl, rfl, h2, r2⟩ := trodAll_cons r1
  obtain ⟨v3, vs3, d3, ds3, p3, q3, rfl, rfl, rfl, h3, r3⟩ := trodAll_cons r2
  obtain ⟨rfl, rfl, rfl⟩ := trodAll_nil r3
  obtain rfl : args = #[v0, v1, v2, v3] := by cases args; simp_all
  obtain ⟨rfl, rfl⟩ := trodVars_none hV
  have k0 := h0
  have lt0 : ∀ x ∈ p0, x.block < W.heap.size := by obtain ⟨m, hm⟩ := k0; exact DataW.trod_lt m _ _ _ hm
  obtain ⟨a0, c0, s0, rfl, l0, m0, g0⟩ := lists_of_trod (okWide_slice Try.underlying34 (hval 0 34 v0 rfl rfl)) h0
  obtain ⟨z1, rfl, rfl, rfl, w1⟩ := open_int Try.underlying3 (hval 1 3 v1 rfl rfl) h1
  have k2 := h2
  have lt2 : ∀ x ∈ p2, x.block < W.heap.size := by obtain ⟨m, hm⟩ := k2; exact DataW.trod_lt m _ _ _ hm
  obtain ⟨a2, c2, s2, rfl, l2, m2, g2⟩ := strs_of_trod (okWide_slice Try.underlying70 (hval 2 70 v2 rfl rfl)) h2
  obtain ⟨t3, rfl, rfl, rfl, ht3⟩ := open_string Try.underlying9 (hval 3 9 v3 rfl rfl) h3
  clear hA0 hval0
  refine (law6 a0 a2 c0 c2 s0 z1 s2 t3 W (Nat.le_trans l0 m0) g0 l0 (nil_cap Try.underlying34 Try.cells70 k0) (Nat.le_trans l2 m2) g2).mono fun e W' ⟨he, bel⟩ => ?_
  subst he
  exact ⟨_, rfl, _, _, _, [], _, [], hW', trodAll_mk1 (shut_bool Try.underlying4 _), (trodAll_cons_mk (Below.trod Try.laidOut (by kernel_rfl) (of_decide_eq_true (by kernel_rfl)) k0 bel lt0) (trodAll_cons_mk (shut_int Try.underlying3 w1) (trodAll_cons_mk (Below.trod Try.laidOut (by kernel_rfl) (of_decide_eq_true (by kernel_rfl)) k2 bel lt2) (trodAll_cons_mk (shut_string Try.underlying9 ht3) trodAll_mk0)))), rfl, bel.frame _, fun h => by cases h⟩

theorem insert_over : Rows.fnPhaseOfInsertPhaseRow.holds Try.pinned (OpenSpec.ofChange Rows.fnPhaseOfInsertPhaseSpec) :=
  OpenClaim.holds_of_wide 6 Try.f6 rfl rfl rfl rfl rfl rfl rfl ⟨rfl, rfl, rfl, rfl, rfl⟩ rfl rfl rfl rfl rfl (by kernel_rfl) Try.func6 (by kernel_rfl)
    (of_decide_eq_true (by kernel_rfl)) (by unfold Func.isWrapper; first | (rw [if_pos (by decide +kernel)]; kernel_rfl) | (rw [if_neg (by decide +kernel)]; exact ⟨rfl, rfl⟩))
    (fun os started H enc _ => insert_lifted os started H enc)

theorem fnPhaseOfInsertPhase_proved : Rows.FnPhaseOfInsertPhaseSaid := insert_over
end Go.Proofs.Qxb6614903a
