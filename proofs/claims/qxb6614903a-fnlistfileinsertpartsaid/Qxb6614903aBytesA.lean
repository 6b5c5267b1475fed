import Derived.Test.Qxb6614903aList
namespace Go.Proofs.Qxb6614903a
open Go.RowKit

def IsBool (e : Ending) (R : Bool → Prop) : Prop := ∃ r, e = .returned (.bool r) ∧ R r
theorem IsBool.no {R : Bool → Prop} (h : R false) : IsBool (.returned (.bool false)) R := ⟨false, rfl, h⟩
def Any (_ : Bool) : Prop := True
theorem IsBool.any (r : Bool) : IsBool (.returned (.bool r)) Any := ⟨r, rfl, trivial⟩
/-- The first k lists are short. -/
def ShortTo (ls : List (List ByteArray)) (k : Nat) : Prop := ∀ j (hj : j < ls.length), j < k → ls[j].length ≤ 1048576
theorem ShortTo.zero (ls : List (List ByteArray)) : ShortTo ls 0 := fun j _ h => by omega
theorem ShortTo.succ {ls : List (List ByteArray)} {k : Nat} (h : ShortTo ls k) (hk : k < ls.length) (hn : ls[k].length ≤ 1048576) : ShortTo ls (k + 1) := fun j hj h' => by
  by_cases e : j = k
  · subst e; exact hn
  · exact h j hj (by omega)
def Lens (ls : List (List ByteArray)) : Prop := ls.length ≤ 1048576 ∧ ∀ k (hk : k < ls.length), ls[k].length ≤ 1048576

set_option maxRecDepth 100000 in
set_option maxHeartbeats 4000000 in
theorem bytes18_any (ao : Option Addr) (cap : Nat) (ls : List (List ByteArray)) (cut : Int) (v : ByteArray) (w : World) (hl : ls.length ≤ maxLen) (h : ListsAt w ao ls) :
    Calls Try.prog 18 #[.slice ao ls.length cap, .int .i64 cut, .string v] w fun e w' => IsBool e (fun r => r = true → Lens ls) ∧ w' = w := by
  unfold maxLen at hl
  go_enter Try.func18, Try.ntmps18
  go_wp2_with fail
  all_goals try (go_ret; exact ⟨IsBool.no (by simp), rfl⟩)
  have hl2 : ls.length ≤ 1048576 := by omega
  go_loop [7, 8, 9] (fun t i _ => ∃ (k : Nat) (zz : Int), k ≤ ls.length ∧ i = .int .i64 k ∧ t = .int .i64 zz ∧ ShortTo ls k) (fun _ i _ => ls.length - (intOf i).toNat)
  case atStart => exact ⟨0, _, Nat.zero_le _, rfl, rfl, ShortTo.zero _⟩
  case round =>
    obtain ⟨k, zz, hk, rfl, rfl, hsh⟩ := hrel
    have HSH := hide hsh
    clear hsh
    by_cases hlt : k < ls.length
    · obtain ⟨b, off, a, c, rfl, c1, hs, hsl⟩ := h k hlt
      unfold maxLen at hsl
      clear h
      go_wp2_with fail
      all_goals try (go_ret; exact ⟨IsBool.no (by simp), rfl⟩)
      have hkl : ls[k].length ≤ 1048576 := by omega
      go_loop [7, 9] (fun t i => ∃ (q : Nat) (zz : Int), q ≤ ls[k].length ∧ i = .int .i64 q ∧ t = .int .i64 zz) (fun _ i => ls[k].length - (intOf i).toNat)
      case atStart => exact ⟨0, _, Nat.zero_le _, rfl, rfl⟩
      case round =>
        obtain ⟨q, yy, hq, rfl, rfl⟩ := hrel
        by_cases hlq : q < ls[k].length
        · obtain ⟨b2, off2, rfl, c2⟩ := hs q hlq
          clear hs
          go_wp2
          all_goals try (go_ret; exact ⟨IsBool.no (by simp), rfl⟩)
          go_round
          case rel => exact ⟨q + 1, _, hlq, by go_num, rfl⟩
          case measure => simp [intOf]; omega
        · go_wp2
          go_round
          case rel => exact ⟨k + 1, _, hlt, by go_num, rfl, (unhide HSH).succ hlt hkl⟩
          case measure => simp [intOf]; omega
    · have e : k = ls.length := by omega
      have hL : Lens ls := ⟨hl2, fun j hj => unhide HSH j hj (by omega)⟩
      have HL := hide hL
      clear hL h
      go_wp2
      all_goals try (go_ret; exact ⟨IsBool.no (by simp), rfl⟩)
      go_ret
      exact ⟨⟨true, rfl, fun _ => unhide HL⟩, rfl⟩

set_option maxRecDepth 100000 in
set_option maxHeartbeats 4000000 in
theorem over_any (ao da : Option Addr) (cap dc : Nat) (ls : List (List ByteArray)) (ad : List ByteArray) (v : ByteArray) (w : World) (hl : ls.length ≤ maxLen) (h : ListsAt w ao ls) (hd : ad.length ≤ maxLen) (h' : StrsAt w da ad) :
    Calls Try.prog 19 #[.slice ao ls.length cap, .slice da ad.length dc, .string v] w fun e w' => IsBool e Any ∧ w' = w := by
  unfold maxLen at hl hd
  go_enter Try.func19, Try.ntmps19
  go_wp2_with fail
  all_goals try (go_ret; exact ⟨IsBool.any _, rfl⟩)
  go_loop [7, 8] (fun t i => ∃ (k : Nat) (zz : Int), k ≤ ad.length ∧ i = .int .i64 k ∧ t = .int .i64 zz) (fun _ i => ad.length - (intOf i).toNat)
  case atStart => exact ⟨0, _, Nat.zero_le _, rfl, rfl⟩
  case round =>
    obtain ⟨k, zz, hk, rfl, rfl⟩ := hrel
    by_cases hlt : k < ad.length
    · obtain ⟨b, off, rfl, c1⟩ := h' k hlt
      clear h' h
      go_wp2
      all_goals try (go_ret; exact ⟨IsBool.any _, rfl⟩)
      go_round
      case rel => exact ⟨k + 1, _, hlt, by go_num, rfl⟩
      case measure => simp [intOf]; omega
    · clear h'
      go_wp2_with fail
      go_loop [7, 9, 10] (fun t i _ => ∃ (k : Nat) (zz : Int), k ≤ ls.length ∧ i = .int .i64 k ∧ t = .int .i64 zz) (fun _ i _ => ls.length - (intOf i).toNat)
      case atStart => exact ⟨0, _, Nat.zero_le _, rfl, rfl⟩
      case round =>
        obtain ⟨k, zz, hk, rfl, rfl⟩ := hrel
        by_cases hlt : k < ls.length
        · obtain ⟨b, off, a, c, rfl, c1, hs, hsl⟩ := h k hlt
          unfold maxLen at hsl
          clear h
          go_wp2_with fail
          all_goals try (go_ret; exact ⟨IsBool.any _, rfl⟩)
          go_loop [7, 10] (fun t i => ∃ (q : Nat) (zz : Int), q ≤ ls[k].length ∧ i = .int .i64 q ∧ t = .int .i64 zz) (fun _ i => ls[k].length - (intOf i).toNat)
          case atStart => exact ⟨0, _, Nat.zero_le _, rfl, rfl⟩
          case round =>
            obtain ⟨q, yy, hq, rfl, rfl⟩ := hrel
            by_cases hlq : q < ls[k].length
            · obtain ⟨b2, off2, rfl, c2⟩ := hs q hlq
              clear hs
              go_wp2
              all_goals try (go_ret; exact ⟨IsBool.any _, rfl⟩)
              go_round
              case rel => exact ⟨q + 1, _, hlq, by go_num, rfl⟩
              case measure => simp [intOf]; omega
            · go_wp2
              go_round
              case rel => exact ⟨k + 1, _, hlt, by go_num, rfl⟩
              case measure => simp [intOf]; omega
        · clear h
          go_wp2
          go_ret
          exact ⟨IsBool.any _, rfl⟩
end Go.Proofs.Qxb6614903a
