import Derived.Test.Qxb6614881aLawB
import Derived.Test.Qxb6614881aOpen
import Derived.ShutString
namespace Go.Proofs.Qxb6614881a
open Go.ChangeShapes Go.WideShapes Go.ChangeAt Go.RowKit Go.Deep
open Go.ChangeMaps (open_string shut_string)

set_option maxRecDepth 100000 in
set_option maxHeartbeats 4000000 in
theorem wild_lifted (os : Os) (started : os.Started) (H : Type) (enc : TypeId × Value → H) :
    ReturnsInHanded {} Try.checked os 4 .any (Rows.fnStandingWildcardGrantsAllButReservedSpec.pre6 enc Try.prog Try.f4 Rows.fnStandingWildcardGrantsAllButReservedRow.domain false) (Rows.fnStandingWildcardGrantsAllButReservedSpec.post enc Try.prog Try.f4 false true false false) := by
  refine returnsInHanded_of_change (C := Try.checked) own started (by kernel_rfl) Try.func4
    (ChangeSpec.witness6 (enc := enc) (C := Try.checked) false ⟨#[], #[(.bool false), (.bool false), (.bool false), (.slice none 0 0), (.slice none 0 0), (.slice none 0 0), (.slice none 0 0), (.bool false), (.slice none 0 0), (.string ⟨#[]⟩), (.slice none 0 0)], []⟩ 8 (by kernel_rfl) (by kernel_rfl) (by kernel_rfl) (by kernel_rfl)) ?_
  intro W base args ds gs before hval0 hW hcnd _
  have hval : ∀ (j : Nat) t v, Try.f4.params[j]? = some t → args[j]? = some v → Value.okWide Try.prog W .any base t v := hval0
  have hW' := hW
  obtain ⟨p, q, hA0, hV, rfl, hfz, hnd⟩ := hW
  have hA : DataW.TrodAll enc Try.prog W 0 (fun _ => true) true Try.f4.params.toList args.toList ds p := hA0
  rw [Try.params4] at hA hval
  obtain ⟨v0, vs0, d0, ds0, p0, q0, hargs, rfl, rfl, h0, r0⟩ := trodAll_cons hA
  obtain ⟨v1, vs1, d1, ds1, p1, q1, rfl, rfl, rfl, h1, r1⟩ := trodAll_cons r0
  obtain ⟨v2, vs2, d2, ds2, p2, q2, rfl, rfl, rfl, h2, r2⟩ := trodAll_cons r1
  obtain ⟨v3, vs3, d3, ds3, p3, q3, rfl, rfl, rfl, h3, r3⟩ := trodAll_cons r2
  obtain ⟨v4, vs4, d4, ds4, p4, q4, rfl, rfl, rfl, h4, r4⟩ := trodAll_cons r3
  obtain ⟨v5, vs5, d5, ds5, p5, q5, rfl, rfl, rfl, h5, r5⟩ := trodAll_cons r4
  obtain ⟨v6, vs6, d6, ds6, p6, q6, rfl, rfl, rfl, h6, r6⟩ := trodAll_cons r5
  obtain ⟨v7, vs7, d7, ds7, p7, q7, rfl, rfl, rfl, h7, r7⟩ := trodAll_cons r6
  obtain ⟨v8, vs8, d8, ds8, p8, q8, rfl, rfl, rfl, h8, r8⟩ := trodAll_cons r7
  obtain ⟨v9, vs9, d9, ds9, p9, q9, rfl, rfl, rfl, h9, r9⟩ := trodAll_cons r8
  obtain ⟨v10, vs10, d10, ds10, p10, q10, rfl, rfl, rfl, h10, r10⟩ := trodAll_cons r9
  obtain ⟨rfl, rfl, rfl⟩ := trodAll_nil r10
  obtain rfl : args = #[v0, v1, v2, v3, v4, v5, v6, v7, v8, v9, v10] := by cases args; simp_all
  obtain ⟨rfl, rfl⟩ := trodVars_none hV
  have k3 := h3
  have lt3 : ∀ x ∈ p3, x.block < W.heap.size := by obtain ⟨m, hm⟩ := k3; exact DataW.trod_lt m _ _ _ hm
  have k4 := h4
  have lt4 : ∀ x ∈ p4, x.block < W.heap.size := by obtain ⟨m, hm⟩ := k4; exact DataW.trod_lt m _ _ _ hm
  have k5 := h5
  have lt5 : ∀ x ∈ p5, x.block < W.heap.size := by obtain ⟨m, hm⟩ := k5; exact DataW.trod_lt m _ _ _ hm
  have k6 := h6
  have lt6 : ∀ x ∈ p6, x.block < W.heap.size := by obtain ⟨m, hm⟩ := k6; exact DataW.trod_lt m _ _ _ hm
  have k8 := h8
  have lt8 : ∀ x ∈ p8, x.block < W.heap.size := by obtain ⟨m, hm⟩ := k8; exact DataW.trod_lt m _ _ _ hm
  have k10 := h10
  have lt10 : ∀ x ∈ p10, x.block < W.heap.size := by obtain ⟨m, hm⟩ := k10; exact DataW.trod_lt m _ _ _ hm
  obtain ⟨b0, rfl, rfl, rfl⟩ := open_bool Try.underlying4 (hval 0 4 v0 rfl rfl) h0
  obtain ⟨b1, rfl, rfl, rfl⟩ := open_bool Try.underlying4 (hval 1 4 v1 rfl rfl) h1
  obtain ⟨b2, rfl, rfl, rfl⟩ := open_bool Try.underlying4 (hval 2 4 v2 rfl rfl) h2
  obtain ⟨b7, rfl, rfl, rfl⟩ := open_bool Try.underlying4 (hval 7 4 v7 rfl rfl) h7
  obtain ⟨a3, c3, s3, rfl, l3, m3, g3⟩ := strs_of_trod (okWide_slice Try.underlying22 (hval 3 22 v3 rfl rfl)) h3
  obtain ⟨a4, c4, s4, rfl, l4, m4, g4⟩ := strs_of_trod (okWide_slice Try.underlying22 (hval 4 22 v4 rfl rfl)) h4
  obtain ⟨a8, c8, s8, rfl, l8, m8, g8⟩ := strs_of_trod (okWide_slice Try.underlying22 (hval 8 22 v8 rfl rfl)) h8
  obtain ⟨a10, c10, s10, rfl, l10, m10, g10⟩ := strs_of_trod (okWide_slice Try.underlying22 (hval 10 22 v10 rfl rfl)) h10
  obtain ⟨a5, c5, s5, rfl, l5, m5, g5⟩ := bools_of_trod (okWide_slice Try.underlying23 (hval 5 23 v5 rfl rfl)) h5
  obtain ⟨a6, c6, s6, rfl, l6, m6, g6⟩ := lists_of_trod (okWide_slice Try.underlying24 (hval 6 24 v6 rfl rfl)) h6
  obtain ⟨t9, rfl, rfl, rfl, ht9⟩ := open_string Try.underlying9 (hval 9 9 v9 rfl rfl) h9
  clear hA0 hval0
  refine (law4 b0 b1 b2 b7 a3 a4 a5 a6 a8 a10 c3 c4 c5 c6 c8 c10 s3 s4 s8 s10 s5 s6 t9 W (Nat.le_trans l3 m3) g3 (Nat.le_trans l4 m4) g4 g5 (Nat.le_trans l6 m6) g6 (Nat.le_trans l8 m8) g8 (Nat.le_trans l10 m10) g10).mono fun e W' ⟨he, bel⟩ => ?_
  subst he
  exact ⟨_, rfl, _, _, _, [], _, [], hW', trodAll_mk1 (shut_bool Try.underlying4 _), (trodAll_cons_mk (shut_bool Try.underlying4 b0) (trodAll_cons_mk (shut_bool Try.underlying4 b1) (trodAll_cons_mk (shut_bool Try.underlying4 b2) (trodAll_cons_mk (Below.trod Try.laidOut (by kernel_rfl) (of_decide_eq_true (by kernel_rfl)) k3 bel lt3) (trodAll_cons_mk (Below.trod Try.laidOut (by kernel_rfl) (of_decide_eq_true (by kernel_rfl)) k4 bel lt4) (trodAll_cons_mk (Below.trod Try.laidOut (by kernel_rfl) (of_decide_eq_true (by kernel_rfl)) k5 bel lt5) (trodAll_cons_mk (Below.trod Try.laidOut (by kernel_rfl) (of_decide_eq_true (by kernel_rfl)) k6 bel lt6) (trodAll_cons_mk (shut_bool Try.underlying4 b7) (trodAll_cons_mk (Below.trod Try.laidOut (by kernel_rfl) (of_decide_eq_true (by kernel_rfl)) k8 bel lt8) (trodAll_cons_mk (shut_string Try.underlying9 ht9) (trodAll_cons_mk (Below.trod Try.laidOut (by kernel_rfl) (of_decide_eq_true (by kernel_rfl)) k10 bel lt10) trodAll_mk0))))))))))), rfl, bel.frame _, fun h => by cases h⟩

theorem wild_over : Rows.fnStandingWildcardGrantsAllButReservedRow.holds Try.pinned (OpenSpec.ofChange Rows.fnStandingWildcardGrantsAllButReservedSpec) :=
  OpenClaim.holds_of_wide 4 Try.f4 rfl rfl rfl rfl rfl rfl rfl ⟨rfl, rfl, rfl, rfl, rfl⟩ rfl rfl rfl rfl rfl (by kernel_rfl) Try.func4 (by kernel_rfl)
    (of_decide_eq_true (by kernel_rfl)) (by unfold Func.isWrapper; first | (rw [if_pos (by decide +kernel)]; kernel_rfl) | (rw [if_neg (by decide +kernel)]; exact ⟨rfl, rfl⟩))
    (fun os started H enc _ => wild_lifted os started H enc)

theorem fnStandingWildcardGrantsAllButReserved_proved : Rows.FnStandingWildcardGrantsAllButReservedSaid := wild_over
end Go.Proofs.Qxb6614881a
