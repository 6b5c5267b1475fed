import Derived.Test.Qxb6614794aLawA
namespace Go.Proofs.Qxb6614794a
open Go.RowKit

set_option maxRecDepth 100000 in
set_option maxHeartbeats 4000000 in
theorem bytes10_any (ao : Option Addr) (cap : Nat) (cut : Int) (x : Part) (ps : List Part) (w : World) (hcap : ps.length ≤ maxLen) (h : PartsAt w ao ps) :
    Calls Try.prog 10 #[.slice ao ps.length cap, .agg #[.string x.id, .string x.acc, .string x.cls, .string x.outl, .int .i32 x.due, .int .i32 x.traded, .int .i64 x.shares], .int .i64 cut] w
      fun e w' => IsBool e (fun r => r = true → Small ps ps.length) ∧ Below w.heap.size w w' := by
  unfold maxLen at hcap
  go_enter Try.func10, Try.ntmps10
  go_wp2
  · go_ret
    exact ⟨IsBool.no (by simp), (Below.refl _ _).alloc (Nat.le_refl _) _⟩
  go_loop [7, 8] (fun z i => ∃ (k : Nat) (zz : Int), k ≤ ps.length ∧ i = .int .i64 k ∧ z = .int .i64 zz ∧ Small ps k) (fun _ i => ps.length - (intOf i).toNat)
  case atStart => exact ⟨0, _, Nat.zero_le _, rfl, rfl, Small.zero _⟩
  case round =>
    obtain ⟨k, zz, hk, rfl, rfl, hsm⟩ := hrel
    have HSM : Hid (Small ps k) := hsm
    clear hsm
    by_cases hlt : k < ps.length
    · obtain ⟨b, off, rfl, h1, h2, h3, h4, _, _, _⟩ := h k hlt
      clear h
      have hbl := World.block_lt_of_cell? w _ h1
      have hal : ∀ ob j, (w.alloc ob).cell? ⟨b, j, none⟩ = w.cell? ⟨b, j, none⟩ := fun ob j => World.cell?_alloc_lt _ _ _ hbl
      clear hbl
      go_wp2
      all_goals try (go_ret; exact ⟨IsBool.no (by simp), (Below.refl _ _).alloc (Nat.le_refl _) _⟩)
      go_round
      case rel =>
        have hs : ((ps[k].id.size : Nat) : Int) ≤ 1048576 := by assumption
        exact ⟨k + 1, _, hlt, by go_num, rfl, HSM.out.succ hlt (by omega)⟩
      case measure => simp [intOf]; omega
    · have e : k = ps.length := by omega
      have hall : Small ps ps.length := e ▸ HSM.out
      have HALL : Hid (Small ps ps.length) := hall
      clear hall e
      go_wp2
      all_goals first | (go_ret; exact ⟨IsBool.no (by simp), (Below.refl _ _).alloc (Nat.le_refl _) _⟩) | (go_ret; exact ⟨⟨true, rfl, fun _ => HALL.out⟩, (Below.refl _ _).alloc (Nat.le_refl _) _⟩)
end Go.Proofs.Qxb6614794a
