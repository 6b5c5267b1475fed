import Derived.Test.Qxb6614903aFile
import Derived.Lib.AppendZeros
import Derived.Room.AppendFits
namespace Go.Proofs.Qxb6614903a
open Go.RowKit

/-! ### A slice of byte slices -/
def PartsAt (w : World) (ao : Option Addr) (ps : List (List Int)) : Prop :=
  ∀ k (hk : k < ps.length), ∃ b off a c, ao = some ⟨b, off, none⟩ ∧ w.cell? ⟨b, off + k, none⟩ = some (.slice a ps[k].length c) ∧ BytesAt w a ps[k] ∧ (a = none → c = 0) ∧ ps[k].length ≤ maxLen
theorem PartsAt.below {w w' : World} {ao : Option Addr} {ss : List (List Int)} (h : PartsAt w ao ss) (hb : Below w.heap.size w w') : PartsAt w' ao ss := by
  intro k hk
  obtain ⟨b, off, a, c, h1, h2, h3, h4⟩ := h k hk
  exact ⟨b, off, a, c, h1, (hb.cell (p := ⟨b, off + k, none⟩) (World.block_lt_of_cell? w _ h2)).trans h2, h3.below hb, h4⟩

/-- How many bytes the parts hold, all of them, and the first k. -/
def sz (ps : List (List Int)) : Nat := ps.flatten.length
def tot (ps : List (List Int)) (k : Nat) : Nat := (ps.take k).flatten.length
theorem tot_zero (ps : List (List Int)) : tot ps 0 = 0 := by simp [tot]
theorem tot_succ (ps : List (List Int)) (k : Nat) (hk : k < ps.length) : tot ps (k + 1) = tot ps k + ps[k].length := by
  unfold tot
  rw [List.take_succ_eq_append_getElem hk]
  simp only [List.flatten_append, List.flatten_cons, List.flatten_nil, List.append_nil, List.length_append]
theorem tot_all (ps : List (List Int)) : tot ps ps.length = sz ps := by rw [tot, sz, List.take_length]
theorem flat_split (ps : List (List Int)) (k : Nat) : ps.flatten = (ps.take k).flatten ++ (ps.drop k).flatten := by rw [← List.flatten_append, List.take_append_drop]
theorem tot_le (ps : List (List Int)) (k : Nat) : tot ps k ≤ sz ps := by
  unfold tot sz
  rw [flat_split ps k, List.length_append]
  omega
theorem part_le (ps : List (List Int)) (k : Nat) (hk : k < ps.length) : tot ps k + ps[k].length ≤ sz ps := by
  rw [← tot_succ ps k hk]; exact tot_le _ _

set_option maxRecDepth 100000 in
set_option maxHeartbeats 1000000 in
theorem bytes10_any (ha ao : Option Addr) (hc cap : Nat) (hs : List Int) (ps : List (List Int)) (kk : Int) (w : World) (hhl : hs.length ≤ maxLen) (hl : ps.length ≤ maxLen) (h : PartsAt w ao ps) :
    Calls Try.prog 10 #[.slice ha hs.length hc, .slice ao ps.length cap, .int .i64 kk] w fun e w' => IsBool e (fun r => r = true → hs.length + ps.length + sz ps ≤ 1048576) ∧ w' = w := by
  unfold maxLen at hhl hl
  go_enter Try.func10, Try.ntmps10
  go_wp2_with fail
  all_goals try (go_ret; exact ⟨IsBool.no (by simp), rfl⟩)
  go_loop [7, 8] (fun t i => ∃ (k n : Nat), k ≤ ps.length ∧ i = .int .i64 k ∧ t = .int .i64 n ∧ n = hs.length + ps.length + tot ps k ∧ n ≤ 1048576) (fun _ i => ps.length - (intOf i).toNat)
  case atStart => exact ⟨0, hs.length + ps.length, Nat.zero_le _, rfl, by go_num, by rw [tot_zero]; rfl, by omega⟩
  case round =>
    obtain ⟨k, n, hk, rfl, rfl, hn, hn2⟩ := hrel
    have HN := hide hn
    clear hn
    by_cases hlt : k < ps.length
    · obtain ⟨b, off, a, c, rfl, c1, -, -, hsl⟩ := h k hlt
      unfold maxLen at hsl
      clear h
      go_wp2
      all_goals try (go_ret; exact ⟨IsBool.no (by simp), rfl⟩)
      go_round
      case rel => exact ⟨k + 1, n + ps[k].length, hlt, by go_num, by go_num, by rw [tot_succ ps k hlt, unhide HN]; omega, by omega⟩
      case measure => simp [intOf]; omega
    · have e : k = ps.length := by omega
      have hL : hs.length + ps.length + sz ps ≤ 1048576 := by have := unhide HN; rw [e, tot_all] at this; omega
      have HL := hide hL
      clear hL h HN e
      go_wp2
      go_ret
      exact ⟨⟨true, rfl, fun _ => unhide HL⟩, rfl⟩

set_option maxRecDepth 100000 in
set_option maxHeartbeats 1000000 in
theorem over11_any (ha xa ao : Option Addr) (hc xc cap : Nat) (hs xs : List Int) (ps : List (List Int)) (w : World) (hhl : hs.length ≤ maxLen) (hxl : xs.length ≤ maxLen) (hl : ps.length ≤ maxLen) (h : PartsAt w ao ps) :
    Calls Try.prog 11 #[.slice ha hs.length hc, .slice xa xs.length xc, .slice ao ps.length cap] w fun e w' => IsBool e Any ∧ w' = w := by
  unfold maxLen at hhl hl hxl
  go_enter Try.func11, Try.ntmps11
  go_wp2_with fail
  all_goals try (go_ret; exact ⟨IsBool.any _, rfl⟩)
  go_loop [7, 8] (fun t i => ∃ (k : Nat) (zz : Int), k ≤ ps.length ∧ i = .int .i64 k ∧ t = .int .i64 zz) (fun _ i => ps.length - (intOf i).toNat)
  case atStart => exact ⟨0, _, Nat.zero_le _, rfl, rfl⟩
  case round =>
    obtain ⟨k, n, hk, rfl, rfl⟩ := hrel
    by_cases hlt : k < ps.length
    · obtain ⟨b, off, a, c, rfl, c1, -, -, hsl⟩ := h k hlt
      unfold maxLen at hsl
      clear h
      go_wp2
      all_goals try (go_ret; exact ⟨IsBool.any _, rfl⟩)
      go_round
      case rel => exact ⟨k + 1, _, hlt, by go_num, rfl⟩
      case measure => simp [intOf]; omega
    · clear h
      go_wp2
      go_ret
      exact ⟨IsBool.any _, rfl⟩
end Go.Proofs.Qxb6614903a
