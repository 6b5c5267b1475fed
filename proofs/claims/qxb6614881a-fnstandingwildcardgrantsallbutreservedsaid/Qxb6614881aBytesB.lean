import Derived.Test.Qxb6614881aBytesA
namespace Go.Proofs.Qxb6614881a
open Go.RowKit

set_option maxRecDepth 100000 in
set_option maxHeartbeats 4000000 in
theorem bytes11_any (re ev aw mw : Bool) (aa ta wa la ma pa : Option Addr) (ac tc wc lc mc pc : Nat) (adl ts ms ps : List ByteArray) (ws : List Bool) (ls : List (List ByteArray)) (table : ByteArray) (w : World)
    (h1 : adl.length ≤ maxLen) (hA : StrsAt w aa adl) (h2 : ts.length ≤ maxLen) (hT : StrsAt w ta ts) (h3 : ls.length ≤ maxLen) (hL : ListsAt w la ls) (h4 : ms.length ≤ maxLen) (hM : StrsAt w ma ms) (h5 : ps.length ≤ maxLen) (hP : StrsAt w pa ps) :
    Calls Try.prog 11 #[.bool re, .bool ev, .bool aw, .slice aa adl.length ac, .slice ta ts.length tc, .slice wa ws.length wc, .slice la ls.length lc, .bool mw, .slice ma ms.length mc, .string table, .slice pa ps.length pc] w fun e w' => IsBool e (fun r => r = true → Lens adl.length ts.length ws.length ls.length ms.length ps.length) ∧ w' = w := by
  unfold maxLen at h1 h2 h3 h4 h5
  go_enter Try.func11, Try.ntmps11
  go_wp2_with fail
  all_goals try (go_ret; exact ⟨IsBool.no (by simp), rfl⟩)
  go_loop [23, 24] (fun t i => ∃ (k : Nat) (zz : Int), k ≤ adl.length ∧ i = .int .i64 k ∧ t = .int .i64 zz) (fun _ i => adl.length - (intOf i).toNat)
  case atStart => exact ⟨0, _, Nat.zero_le _, rfl, rfl⟩
  case round =>
    obtain ⟨k, zz, hk, rfl, rfl⟩ := hrel
    by_cases hlt : k < adl.length
    · obtain ⟨b, off, rfl, c1⟩ := hA k hlt
      clear hA hT hL hM hP
      go_wp2
      all_goals try (go_ret; exact ⟨IsBool.no (by simp), rfl⟩)
      go_round
      case rel => exact ⟨k + 1, _, hlt, by go_num, rfl⟩
      case measure => simp [intOf]; omega
    · clear hA
      go_wp2_with fail
      all_goals try (go_ret; exact ⟨IsBool.no (by simp), rfl⟩)
      go_loop [23, 25] (fun t i => ∃ (k : Nat) (zz : Int), k ≤ ts.length ∧ i = .int .i64 k ∧ t = .int .i64 zz) (fun _ i => ts.length - (intOf i).toNat)
      case atStart => exact ⟨0, _, Nat.zero_le _, rfl, rfl⟩
      case round =>
        obtain ⟨k, zz, hk, rfl, rfl⟩ := hrel
        by_cases hlt : k < ts.length
        · obtain ⟨b, off, rfl, c1⟩ := hT k hlt
          clear hT hL hM hP
          go_wp2
          all_goals try (go_ret; exact ⟨IsBool.no (by simp), rfl⟩)
          go_round
          case rel => exact ⟨k + 1, _, hlt, by go_num, rfl⟩
          case measure => simp [intOf]; omega
        · clear hT
          go_wp2_with fail
          all_goals try (go_ret; exact ⟨IsBool.no (by simp), rfl⟩)
          go_loop [23, 26] (fun t i => ∃ (k : Nat) (zz : Int), k ≤ ls.length ∧ i = .int .i64 k ∧ t = .int .i64 zz) (fun _ i => ls.length - (intOf i).toNat)
          case atStart => exact ⟨0, _, Nat.zero_le _, rfl, rfl⟩
          case round =>
            obtain ⟨k, zz, hk, rfl, rfl⟩ := hrel
            by_cases hlt : k < ls.length
            · obtain ⟨b, off, a, c, rfl, c1, hs, hsl⟩ := hL k hlt
              unfold maxLen at hsl
              clear hL hM hP
              go_wp2_with fail
              all_goals try (go_ret; exact ⟨IsBool.no (by simp), rfl⟩)
              go_loop [23, 27] (fun t i => ∃ (q : Nat) (zz : Int), q ≤ ls[k].length ∧ i = .int .i64 q ∧ t = .int .i64 zz) (fun _ i => ls[k].length - (intOf i).toNat)
              case atStart => exact ⟨0, _, Nat.zero_le _, rfl, rfl⟩
              case round =>
                obtain ⟨q, yy, hq, rfl, rfl⟩ := hrel
                by_cases hlq : q < ls[k].length
                · obtain ⟨b2, off2, rfl, c2⟩ := hs q hlq
                  clear hs
                  go_wp2
                  all_goals try (go_ret; exact ⟨IsBool.no (by simp), rfl⟩)
                  go_round
                  case rel => exact ⟨q + 1, _, hlq, by go_num, rfl⟩
                  case measure => simp [intOf]; omega
                · clear hs
                  go_wp2
                  go_round
                  case rel => exact ⟨k + 1, _, hlt, by go_num, rfl⟩
                  case measure => simp [intOf]; omega
            · clear hL
              go_wp2_with fail
              all_goals try (go_ret; exact ⟨IsBool.no (by simp), rfl⟩)
              go_loop [23, 28] (fun t i => ∃ (k : Nat) (zz : Int), k ≤ ms.length ∧ i = .int .i64 k ∧ t = .int .i64 zz) (fun _ i => ms.length - (intOf i).toNat)
              case atStart => exact ⟨0, _, Nat.zero_le _, rfl, rfl⟩
              case round =>
                obtain ⟨k, zz, hk, rfl, rfl⟩ := hrel
                by_cases hlt : k < ms.length
                · obtain ⟨b, off, rfl, c1⟩ := hM k hlt
                  clear hM hP
                  go_wp2
                  all_goals try (go_ret; exact ⟨IsBool.no (by simp), rfl⟩)
                  go_round
                  case rel => exact ⟨k + 1, _, hlt, by go_num, rfl⟩
                  case measure => simp [intOf]; omega
                · clear hM
                  go_wp2_with fail
                  all_goals try (go_ret; exact ⟨IsBool.no (by simp), rfl⟩)
                  go_loop [23, 29] (fun t i => ∃ (k : Nat) (zz : Int), k ≤ ps.length ∧ i = .int .i64 k ∧ t = .int .i64 zz) (fun _ i => ps.length - (intOf i).toNat)
                  case atStart => exact ⟨0, _, Nat.zero_le _, rfl, rfl⟩
                  case round =>
                    obtain ⟨k, zz, hk, rfl, rfl⟩ := hrel
                    by_cases hlt : k < ps.length
                    · obtain ⟨b, off, rfl, c1⟩ := hP k hlt
                      clear hP
                      go_wp2
                      all_goals try (go_ret; exact ⟨IsBool.no (by simp), rfl⟩)
                      go_round
                      case rel => exact ⟨k + 1, _, hlt, by go_num, rfl⟩
                      case measure => simp [intOf]; omega
                    · clear hP
                      go_wp2
                      go_ret
                      exact ⟨⟨true, rfl, fun _ => ⟨by omega, by omega, by omega, by omega, by omega, by omega⟩⟩, rfl⟩
end Go.Proofs.Qxb6614881a
