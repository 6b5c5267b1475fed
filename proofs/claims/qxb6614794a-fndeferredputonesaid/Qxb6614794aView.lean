import Derived.Test.Qxb6614794aBuild
import Derived.Laws.StructEq
namespace Go.Proofs.Qxb6614794a
open Go.RowKit

theorem coef_any (c pl : Int) (w : World) : Calls Try.prog 19 #[.agg #[.int .i64 c, .int .i64 pl]] w fun e w' => e = .returned (.int .i64 c) ∧ w' = w.alloc (.cells #[.int .i64 c, .int .i64 pl] 37) := by
  go_enter Try.func19, Try.ntmps19
  go_wp2
  go_ret
  exact ⟨rfl, rfl⟩
theorem places_any (c pl : Int) (w : World) : Calls Try.prog 20 #[.agg #[.int .i64 c, .int .i64 pl]] w fun e w' => e = .returned (.int .i64 pl) ∧ w' = w.alloc (.cells #[.int .i64 c, .int .i64 pl] 37) := by
  go_enter Try.func20, Try.ntmps20
  go_wp2
  go_ret
  exact ⟨rfl, rfl⟩


/-- The fields of a struct type, and that '==' on it is plain. -/
theorem Try.u35 : Try.prog.underlying 35 = some (.struct (Try.prog.fieldsOf 35)) := by kernel_rfl
theorem Try.u39 : Try.prog.underlying 39 = some (.struct (Try.prog.fieldsOf 39)) := by kernel_rfl
theorem Try.u37 : Try.prog.underlying 37 = some (.struct (Try.prog.fieldsOf 37)) := by kernel_rfl
theorem Try.h35 : Try.prog.stoodInHeld 35 = false := by kernel_rfl
theorem Try.h39 : Try.prog.stoodInHeld 39 = false := by kernel_rfl
theorem Try.h37 : Try.prog.stoodInHeld 37 = false := by kernel_rfl

theorem eq35 (p : Part) (d : Nat) (w : World) : (Op.equalIn (d + 2) 35 (.agg #[.int .i32 0, .bool false, .string p.id, .string p.acc, .string p.cls, .string p.outl, .string redeem, .string ⟨#[]⟩, .string ⟨#[]⟩])
    (.agg #[.int .i32 0, .bool false, .string p.id, .string p.acc, .string p.cls, .string p.outl, .string redeem, .string ⟨#[]⟩, .string ⟨#[]⟩])).run Try.prog w = .ok true w := by
  rw [run_equalIn_agg w _ 35 _ _ Try.u35 Try.h35]
  simp [Program.fieldsOf, Try.underlying35, Op.eqFields, part, isAgg, run_underlying Try.underlying9, Try.underlying9, Try.underlying4, Try.underlying33, go_sem]
theorem eq37 (a b : Int) (d : Nat) (w : World) : (Op.equalIn (d + 2) 37 (.agg #[.int .i64 a, .int .i64 b]) (.agg #[.int .i64 a, .int .i64 b])).run Try.prog w = .ok true w := by
  rw [run_equalIn_agg w _ 37 _ _ Try.u37 Try.h37]
  simp [Program.fieldsOf, Try.underlying37, Op.eqFields, part, isAgg, Try.underlying2, Try.underlying3, go_sem]

theorem eqFields_step {P : Program} {w : World} {d : Nat} {xs : Array Value} {f : Field} {fs : List Field} (hn : f.name ≠ "_") (a : Value) (h1 : (part f.type xs f.offset).run P w = .ok a w)
    (h3 : (Op.equalIn d f.type a a).run P w = .ok true w) (h : (Op.eqFields d xs xs fs).run P w = .ok true w) : (Op.eqFields d xs xs (f :: fs)).run P w = .ok true w := by
  simp only [Op.eqFields, hn, ne_eq, not_false_eq_true, if_true, Sem.run_bind, h1, Result.andThen_ok, h3, Bool.not_true, Bool.false_eq_true, if_false, h]

theorem size35 (w : World) : (sizeOf 35).run Try.prog w = .ok 9 w := by
  have h : (Try.prog.info? 35).map (·.size) = some 9 := by kernel_rfl
  obtain ⟨i, hi, hs⟩ := Option.map_eq_some_iff.1 h
  simp [sizeOf, typeInfo, hi, hs]
theorem size37 (w : World) : (sizeOf 37).run Try.prog w = .ok 2 w := by
  have h : (Try.prog.info? 37).map (·.size) = some 2 := by kernel_rfl
  obtain ⟨i, hi, hs⟩ := Option.map_eq_some_iff.1 h
  simp [sizeOf, typeInfo, hi, hs]

theorem eq39 (p : Part) (d : Nat) (w : World) : (Op.equalIn (d + 3) 39 (.agg (dpCells p).toArray) (.agg (dpCells p).toArray)).run Try.prog w = .ok true w := by
  rw [run_equalIn_agg w _ 39 _ _ Try.u39 Try.h39]
  have h1 := eq35 p d w
  have h2 := eq37 p.shares 2 d w
  simp only [Program.fieldsOf, Try.underlying39]
  refine eqFields_step (by decide) _ ?_ h1 (eqFields_step (by decide) (.int .i32 p.due) ?_ ?_ (eqFields_step (by decide) (.int .i32 p.traded) ?_ ?_ (eqFields_step (by decide) _ ?_ h2 rfl)))
  · simp [part, isAgg, run_underlying Try.underlying35, dpCells]
  · simp [part, isAgg, run_underlying Try.underlying33, dpCells]
  · rw [run_equalIn_int w _ 33 .i32 .i32 _ _ Try.underlying33]; simp
  · simp [part, isAgg, run_underlying Try.underlying33, dpCells]
  · rw [run_equalIn_int w _ 33 .i32 .i32 _ _ Try.underlying33]; simp
  · simp [part, isAgg, run_underlying Try.underlying37, dpCells]


/-- The three blocks that sameView lays. -/
def Blocks3 (w' : World) (N : Nat) (p : Part) : Prop :=
  N + 2 < w'.heap.size ∧ w'.heap[N]? = some (.cells #[.int .i32 0, .bool false, .string p.id, .string p.acc, .string p.cls, .string p.outl, .string { data := #[114, 101, 100, 101, 101, 109] }, .string ⟨#[]⟩, .string ⟨#[]⟩, .int .i32 p.due, .int .i32 p.traded, .int .i64 p.shares, .int .i64 2] 39) ∧ w'.heap[N + 1]? = some (.cells #[.string p.id, .string p.acc, .string p.cls, .string p.outl, .int .i32 p.due, .int .i32 p.traded, .int .i64 p.shares] 27) ∧ w'.heap[N + 1 + 1]? = some (.cells #[.int .i32 0, .bool false, .string p.id, .string p.acc, .string p.cls, .string p.outl, .string { data := #[114, 101, 100, 101, 101, 109] }, .string ⟨#[]⟩, .string ⟨#[]⟩] 35)
theorem Blocks3.alloc {w' : World} {N : Nat} {p : Part} (h : Blocks3 w' N p) (o : Obj) : Blocks3 (w'.alloc o) N p := by
  obtain ⟨h0, h1, h2, h3⟩ := h
  exact ⟨by simp; omega, (Below.heap_alloc _ _ _ (by omega)).trans h1, (Below.heap_alloc _ _ _ (by omega)).trans h2, (Below.heap_alloc _ _ _ (by omega)).trans h3⟩
theorem Blocks3.cells {w' : World} {N : Nat} {p : Part} (h : Blocks3 w' N p) : w'.cell? ⟨N, 0, none⟩ = some (.int .i32 0) ∧ w'.cell? ⟨N, 1, none⟩ = some (.bool false) ∧ w'.cell? ⟨N, 2, none⟩ = some (.string p.id) ∧ w'.cell? ⟨N, 3, none⟩ = some (.string p.acc) ∧ w'.cell? ⟨N, 4, none⟩ = some (.string p.cls) ∧ w'.cell? ⟨N, 5, none⟩ = some (.string p.outl) ∧ w'.cell? ⟨N, 6, none⟩ = some (.string { data := #[114, 101, 100, 101, 101, 109] }) ∧ w'.cell? ⟨N, 7, none⟩ = some (.string ⟨#[]⟩) ∧ w'.cell? ⟨N, 8, none⟩ = some (.string ⟨#[]⟩) ∧ w'.cell? ⟨N, 9, none⟩ = some (.int .i32 p.due) ∧ w'.cell? ⟨N, 10, none⟩ = some (.int .i32 p.traded) ∧ w'.cell? ⟨N, 11, none⟩ = some (.int .i64 p.shares) ∧ w'.cell? ⟨N, 12, none⟩ = some (.int .i64 2) ∧ w'.cell? ⟨N + 1, 0, none⟩ = some (.string p.id) ∧ w'.cell? ⟨N + 1, 1, none⟩ = some (.string p.acc) ∧ w'.cell? ⟨N + 1, 2, none⟩ = some (.string p.cls) ∧ w'.cell? ⟨N + 1, 3, none⟩ = some (.string p.outl) ∧ w'.cell? ⟨N + 1, 4, none⟩ = some (.int .i32 p.due) ∧ w'.cell? ⟨N + 1, 5, none⟩ = some (.int .i32 p.traded) ∧ w'.cell? ⟨N + 1, 6, none⟩ = some (.int .i64 p.shares) ∧ w'.cell? ⟨N + 1 + 1, 0, none⟩ = some (.int .i32 0) ∧ w'.cell? ⟨N + 1 + 1, 1, none⟩ = some (.bool false) ∧ w'.cell? ⟨N + 1 + 1, 2, none⟩ = some (.string p.id) ∧ w'.cell? ⟨N + 1 + 1, 3, none⟩ = some (.string p.acc) ∧ w'.cell? ⟨N + 1 + 1, 4, none⟩ = some (.string p.cls) ∧ w'.cell? ⟨N + 1 + 1, 5, none⟩ = some (.string p.outl) ∧ w'.cell? ⟨N + 1 + 1, 6, none⟩ = some (.string { data := #[114, 101, 100, 101, 101, 109] }) ∧ w'.cell? ⟨N + 1 + 1, 7, none⟩ = some (.string ⟨#[]⟩) ∧ w'.cell? ⟨N + 1 + 1, 8, none⟩ = some (.string ⟨#[]⟩) := by
  obtain ⟨_, h1, h2, h3⟩ := h
  have k0 : ∀ j u, (#[.int .i32 0, .bool false, .string p.id, .string p.acc, .string p.cls, .string p.outl, .string { data := #[114, 101, 100, 101, 101, 109] }, .string ⟨#[]⟩, .string ⟨#[]⟩, .int .i32 p.due, .int .i32 p.traded, .int .i64 p.shares, .int .i64 2] : Array Value)[j]? = some u → w'.cell? ⟨N, j, none⟩ = some u := fun j u hu => by rw [cell_of_row _ N j _ 39 (0, 0) h1]; exact hu
  have k1 : ∀ j u, (#[.string p.id, .string p.acc, .string p.cls, .string p.outl, .int .i32 p.due, .int .i32 p.traded, .int .i64 p.shares] : Array Value)[j]? = some u → w'.cell? ⟨N + 1, j, none⟩ = some u := fun j u hu => by rw [cell_of_row _ (N + 1) j _ 27 (0, 0) h2]; exact hu
  have k2 : ∀ j u, (#[.int .i32 0, .bool false, .string p.id, .string p.acc, .string p.cls, .string p.outl, .string { data := #[114, 101, 100, 101, 101, 109] }, .string ⟨#[]⟩, .string ⟨#[]⟩] : Array Value)[j]? = some u → w'.cell? ⟨N + 1 + 1, j, none⟩ = some u := fun j u hu => by rw [cell_of_row _ (N + 1 + 1) j _ 35 (0, 0) h3]; exact hu
  exact ⟨k0 0 _ rfl, k0 1 _ rfl, k0 2 _ rfl, k0 3 _ rfl, k0 4 _ rfl, k0 5 _ rfl, k0 6 _ rfl, k0 7 _ rfl, k0 8 _ rfl, k0 9 _ rfl, k0 10 _ rfl, k0 11 _ rfl, k0 12 _ rfl, k1 0 _ rfl, k1 1 _ rfl, k1 2 _ rfl, k1 3 _ rfl, k1 4 _ rfl, k1 5 _ rfl, k1 6 _ rfl, k2 0 _ rfl, k2 1 _ rfl, k2 2 _ rfl, k2 3 _ rfl, k2 4 _ rfl, k2 5 _ rfl, k2 6 _ rfl, k2 7 _ rfl, k2 8 _ rfl⟩

set_option maxRecDepth 100000 in
set_option maxHeartbeats 4000000 in
theorem sameView_any (p : Part) (w : World) :
    Calls Try.prog 9 #[.agg #[.int .i32 0, .bool false, .string p.id, .string p.acc, .string p.cls, .string p.outl, .string { data := #[114, 101, 100, 101, 101, 109] }, .string ⟨#[]⟩, .string ⟨#[]⟩, .int .i32 p.due, .int .i32 p.traded, .int .i64 p.shares, .int .i64 2], .agg #[.string p.id, .string p.acc, .string p.cls, .string p.outl, .int .i32 p.due, .int .i32 p.traded, .int .i64 p.shares]] w fun e w' => e = .returned (.bool true) ∧ Below w.heap.size w w' := by
  have e35 := fun w => eq35 p 9998 w
  have g35 : Try.prog.eqGuardType Try.prog.depth 35 = false := by kernel_rfl
  unfold redeem at *
  go_enter Try.func9, Try.ntmps9
  go_wp2
  obtain ⟨W, hW⟩ : ∃ W, W = ((w.alloc (.cells #[.int .i32 0, .bool false, .string p.id, .string p.acc, .string p.cls, .string p.outl, .string { data := #[114, 101, 100, 101, 101, 109] }, .string ⟨#[]⟩, .string ⟨#[]⟩, .int .i32 p.due, .int .i32 p.traded, .int .i64 p.shares, .int .i64 2] 39)).alloc (.cells #[.string p.id, .string p.acc, .string p.cls, .string p.outl, .int .i32 p.due, .int .i32 p.traded, .int .i64 p.shares] 27)).alloc (.cells #[.int .i32 0, .bool false, .string p.id, .string p.acc, .string p.cls, .string p.outl, .string { data := #[114, 101, 100, 101, 101, 109] }, .string ⟨#[]⟩, .string ⟨#[]⟩] 35) := ⟨_, rfl⟩
  rw [← hW]
  have HB : Blocks3 W.drew w.heap.size p := by
    subst hW
    refine ⟨?_, ?_, ?_, ?_⟩
    · show _ < (((w.alloc _).alloc _).alloc _).heap.size
      simp
    · show (((w.alloc _).alloc _).alloc _).heap[w.heap.size]? = _
      exact (Below.heap_alloc _ _ _ (by simp; omega)).trans ((Below.heap_alloc _ _ _ (by simp)).trans (heap_alloc_new w _))
    · show (((w.alloc _).alloc _).alloc _).heap[w.heap.size + 1]? = _
      exact (Below.heap_alloc _ _ _ (by simp)).trans (by simpa using heap_alloc_new (w.alloc _) _)
    · show (((w.alloc _).alloc _).alloc _).heap[w.heap.size + 1 + 1]? = _
      simpa using heap_alloc_new ((w.alloc _).alloc _) _
  have Hb : Below w.heap.size w W := by
    subst hW
    exact (((Below.refl _ _).alloc (Nat.le_refl _) _).alloc (by simp) _).alloc (by simp; omega) _
  clear hW
  have hs := HB.1
  generalize hN : w.heap.size = N at *
  have HN : Hid (w.heap.size = N) := hN
  clear hN
  go_region_held3 (fun w' => w'.cell? ⟨N, 0, none⟩ = some (.int .i32 0) ∧ w'.cell? ⟨N, 1, none⟩ = some (.bool false) ∧ w'.cell? ⟨N, 2, none⟩ = some (.string p.id) ∧ w'.cell? ⟨N, 3, none⟩ = some (.string p.acc) ∧ w'.cell? ⟨N, 4, none⟩ = some (.string p.cls) ∧ w'.cell? ⟨N, 5, none⟩ = some (.string p.outl) ∧ w'.cell? ⟨N, 6, none⟩ = some (.string { data := #[114, 101, 100, 101, 101, 109] }) ∧ w'.cell? ⟨N, 7, none⟩ = some (.string ⟨#[]⟩) ∧ w'.cell? ⟨N, 8, none⟩ = some (.string ⟨#[]⟩) ∧ w'.cell? ⟨N, 9, none⟩ = some (.int .i32 p.due) ∧ w'.cell? ⟨N, 10, none⟩ = some (.int .i32 p.traded) ∧ w'.cell? ⟨N, 11, none⟩ = some (.int .i64 p.shares) ∧ w'.cell? ⟨N, 12, none⟩ = some (.int .i64 2) ∧ w'.cell? ⟨N + 1, 0, none⟩ = some (.string p.id) ∧ w'.cell? ⟨N + 1, 1, none⟩ = some (.string p.acc) ∧ w'.cell? ⟨N + 1, 2, none⟩ = some (.string p.cls) ∧ w'.cell? ⟨N + 1, 3, none⟩ = some (.string p.outl) ∧ w'.cell? ⟨N + 1, 4, none⟩ = some (.int .i32 p.due) ∧ w'.cell? ⟨N + 1, 5, none⟩ = some (.int .i32 p.traded) ∧ w'.cell? ⟨N + 1, 6, none⟩ = some (.int .i64 p.shares) ∧ w'.cell? ⟨N + 1 + 1, 0, none⟩ = some (.int .i32 0) ∧ w'.cell? ⟨N + 1 + 1, 1, none⟩ = some (.bool false) ∧ w'.cell? ⟨N + 1 + 1, 2, none⟩ = some (.string p.id) ∧ w'.cell? ⟨N + 1 + 1, 3, none⟩ = some (.string p.acc) ∧ w'.cell? ⟨N + 1 + 1, 4, none⟩ = some (.string p.cls) ∧ w'.cell? ⟨N + 1 + 1, 5, none⟩ = some (.string p.outl) ∧ w'.cell? ⟨N + 1 + 1, 6, none⟩ = some (.string { data := #[114, 101, 100, 101, 101, 109] }) ∧ w'.cell? ⟨N + 1 + 1, 7, none⟩ = some (.string ⟨#[]⟩) ∧ w'.cell? ⟨N + 1 + 1, 8, none⟩ = some (.string ⟨#[]⟩)) (first | exact HB.cells | exact (HB.alloc _).cells | exact ((HB.alloc _).alloc _).cells)
    (first
      | (go_at_call 19; refine (coef_any _ _ _).mono ?_; rintro e w' ⟨rfl, rfl⟩)
      | (go_at_call 20; refine (places_any _ _ _).mono ?_; rintro e w' ⟨rfl, rfl⟩))
  all_goals
    go_wp2
    go_ret
    refine ⟨rfl, ?_⟩
    have hs' : N + 2 < W.heap.size := hs
    rw [HN.out]
    exact ((Hb.alloc (by omega) _).alloc (by simp; omega) _).drew
end Go.Proofs.Qxb6614794a
