import Derived.Test.Qxb6614903aParts
namespace Go.Proofs.Qxb6614903a
open Go.RowKit

set_option maxRecDepth 100000 in
set_option maxHeartbeats 1000000 in
theorem bytes17_any (ha ao xa : Option Addr) (hc cap xc : Nat) (hs : List Int) (ps : List (List Int)) (kk : Int) (xs : List Int) (w : World) (hhl : hs.length ≤ maxLen) (hl : ps.length ≤ maxLen) (h : PartsAt w ao ps) (hxl : xs.length ≤ maxLen) :
    Calls Try.prog 17 #[.slice ha hs.length hc, .slice ao ps.length cap, .int .i64 kk, .slice xa xs.length xc] w fun e w' => IsBool e (fun r => r = true → hs.length + ps.length + sz ps + xs.length ≤ 1048576) ∧ w' = w := by
  unfold maxLen at hhl hl hxl
  go_enter Try.func17, Try.ntmps17
  go_wp2_with fail
  all_goals try (go_ret; exact ⟨IsBool.no (by simp), rfl⟩)
  go_loop [9, 10] (fun t i => ∃ (k n : Nat), k ≤ ps.length ∧ i = .int .i64 k ∧ t = .int .i64 n ∧ n = hs.length + ps.length + tot ps k ∧ n ≤ 1048576) (fun _ i => ps.length - (intOf i).toNat)
  case atStart => exact ⟨0, hs.length + ps.length, Nat.zero_le _, rfl, by go_num, by rw [tot_zero]; rfl, by omega⟩
  case round =>
    obtain ⟨k, n, hk, rfl, rfl, hn, hn2⟩ := hrel
    have HN := hide hn
    clear hn
    by_cases hlt : k < ps.length
    · obtain ⟨b, off, a, c, rfl, c1, -, -, hsl⟩ := h k hlt
      unfold maxLen at hsl
      clear h
      go_wp2
      all_goals try (go_ret; exact ⟨IsBool.no (by simp), rfl⟩)
      go_round
      case rel => exact ⟨k + 1, n + ps[k].length, hlt, by go_num, by go_num, by rw [tot_succ ps k hlt, unhide HN]; omega, by omega⟩
      case measure => simp [intOf]; omega
    · have e : k = ps.length := by omega
      have hL : n = hs.length + ps.length + sz ps := by have := unhide HN; rw [e, tot_all] at this; exact this
      have HL := hide hL
      clear hL h HN e
      go_wp2
      all_goals try (go_ret; exact ⟨IsBool.no (by simp), rfl⟩)
      go_ret
      exact ⟨⟨true, rfl, fun _ => by rw [← unhide HL]; omega⟩, rfl⟩
end Go.Proofs.Qxb6614903a
