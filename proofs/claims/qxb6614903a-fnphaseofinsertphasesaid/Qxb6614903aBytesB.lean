import Derived.Test.Qxb6614903aBytesA
namespace Go.Proofs.Qxb6614903a
open Go.RowKit

set_option maxRecDepth 100000 in
set_option maxHeartbeats 4000000 in
theorem bytes24_any (ao da : Option Addr) (cap dc : Nat) (ls : List (List ByteArray)) (cut : Int) (ad : List ByteArray) (v : ByteArray) (w : World) (hl : ls.length ≤ maxLen) (h : ListsAt w ao ls) (hd : ad.length ≤ maxLen) (h' : StrsAt w da ad) :
    Calls Try.prog 24 #[.slice ao ls.length cap, .int .i64 cut, .slice da ad.length dc, .string v] w fun e w' => IsBool e (fun r => r = true → Lens ls ∧ ad.length ≤ 1048576) ∧ w' = w := by
  unfold maxLen at hl hd
  go_enter Try.func24, Try.ntmps24
  go_wp2_with fail
  all_goals try (go_ret; exact ⟨IsBool.no (by simp), rfl⟩)
  have hl2 : ls.length ≤ 1048576 := by omega
  go_loop [9, 10, 11] (fun t i _ => ∃ (k : Nat) (zz : Int), k ≤ ls.length ∧ i = .int .i64 k ∧ t = .int .i64 zz ∧ ShortTo ls k) (fun _ i _ => ls.length - (intOf i).toNat)
  case atStart => exact ⟨0, _, Nat.zero_le _, rfl, rfl, ShortTo.zero _⟩
  case round =>
    obtain ⟨k, zz, hk, rfl, rfl, hsh⟩ := hrel
    have HSH := hide hsh
    clear hsh
    by_cases hlt : k < ls.length
    · obtain ⟨b, off, a, c, rfl, c1, hs, hsl⟩ := h k hlt
      unfold maxLen at hsl
      clear h h'
      go_wp2_with fail
      all_goals try (go_ret; exact ⟨IsBool.no (by simp), rfl⟩)
      have hkl : ls[k].length ≤ 1048576 := by omega
      go_loop [9, 11] (fun t i => ∃ (q : Nat) (zz : Int), q ≤ ls[k].length ∧ i = .int .i64 q ∧ t = .int .i64 zz) (fun _ i => ls[k].length - (intOf i).toNat)
      case atStart => exact ⟨0, _, Nat.zero_le _, rfl, rfl⟩
      case round =>
        obtain ⟨q, yy, hq, rfl, rfl⟩ := hrel
        by_cases hlq : q < ls[k].length
        · obtain ⟨b2, off2, rfl, c2⟩ := hs q hlq
          clear hs
          go_wp2
          all_goals try (go_ret; exact ⟨IsBool.no (by simp), rfl⟩)
          go_round
          case rel => exact ⟨q + 1, _, hlq, by go_num, rfl⟩
          case measure => simp [intOf]; omega
        · go_wp2
          go_round
          case rel => exact ⟨k + 1, _, hlt, by go_num, rfl, (unhide HSH).succ hlt hkl⟩
          case measure => simp [intOf]; omega
    · have e : k = ls.length := by omega
      have hL : Lens ls := ⟨hl2, fun j hj => unhide HSH j hj (by omega)⟩
      have HL := hide hL
      clear hL h HSH
      go_wp2_with fail
      all_goals try (go_ret; exact ⟨IsBool.no (by simp), rfl⟩)
      have hd2 : ad.length ≤ 1048576 := by omega
      go_loop [9, 12] (fun t i => ∃ (q : Nat) (zz : Int), q ≤ ad.length ∧ i = .int .i64 q ∧ t = .int .i64 zz) (fun _ i => ad.length - (intOf i).toNat)
      case atStart => exact ⟨0, _, Nat.zero_le _, rfl, rfl⟩
      case round =>
        obtain ⟨q, yy, hq, rfl, rfl⟩ := hrel
        by_cases hlq : q < ad.length
        · obtain ⟨b2, off2, rfl, c2⟩ := h' q hlq
          clear h'
          go_wp2
          all_goals try (go_ret; exact ⟨IsBool.no (by simp), rfl⟩)
          go_round
          case rel => exact ⟨q + 1, _, hlq, by go_num, rfl⟩
          case measure => simp [intOf]; omega
        · clear h'
          go_wp2
          all_goals try (go_ret; exact ⟨IsBool.no (by simp), rfl⟩)
          go_ret
          exact ⟨⟨true, rfl, fun _ => unhide HL⟩, rfl⟩
end Go.Proofs.Qxb6614903a
