import Derived.Test.Qxb6614903aBytesA
import Derived.BigQuiet
import Derived.Lib.AppendStr
namespace Go.Proofs.Qxb6614903a
open Go.RowKit

/-! ### Bytes in memory -/
def BytesAt (w : World) (ao : Option Addr) (bs : List Int) : Prop := ∀ k (hk : k < bs.length), ∃ b off, ao = some ⟨b, off, none⟩ ∧ w.cell? ⟨b, off + k, none⟩ = some (.int .u8 bs[k])
theorem BytesAt.below {w w' : World} {ao : Option Addr} {bs : List Int} (h : BytesAt w ao bs) (hb : Below w.heap.size w w') : BytesAt w' ao bs := by
  intro k hk
  obtain ⟨b, off, h1, h2⟩ := h k hk
  exact ⟨b, off, h1, (hb.cell (p := ⟨b, off + k, none⟩) (World.block_lt_of_cell? w _ h2)).trans h2⟩
theorem BytesAt.nil (w : World) (ao : Option Addr) : BytesAt w ao [] := fun k hk => by simp at hk
/-- A string's bytes. -/
def sb (s : ByteArray) : List Int := s.data.toList.map fun b => (b.toNat : Int)
theorem sb_len (s : ByteArray) : (sb s).length = s.size := by
  unfold sb
  rw [List.length_map, Array.length_toList]
  rfl
theorem sb_get (s : ByteArray) (k : Nat) (h : k < (sb s).length) (h' : k < s.size) : (sb s)[k] = (s[k].toNat : Int) := by
  have e : (sb s)[k]? = some (s[k].toNat : Int) := by
    unfold sb
    rw [List.getElem?_map, Array.getElem?_toList, Array.getElem?_eq_getElem (h' : k < s.data.size)]
    rfl
  exact Option.some.inj ((List.getElem?_eq_getElem h).symm.trans e)

set_option maxRecDepth 100000 in
theorem sameBytes_any (a b : Option Addr) (c d : Nat) (xs : List Int) (w : World) (hl : xs.length ≤ maxLen) (h1 : BytesAt w a xs) (h2 : BytesAt w b xs) :
    Calls Try.prog 16 #[.slice a xs.length c, .slice b xs.length d] w fun e w' => e = .returned (.bool true) ∧ Below w.heap.size w w' := by
  unfold maxLen at hl
  go_enter Try.func16, Try.ntmps16
  go_wp2
  go_loopw [5] (fun i wr => ∃ (k : Nat), i = .int .i64 k ∧ k ≤ xs.length ∧ Below w.heap.size w wr) (fun i _ => xs.length + 1 - (intOf i).toNat)
  case atStart => exact ⟨0, rfl, Nat.zero_le _, Below.refl _ _⟩
  case round =>
    obtain ⟨k, rfl, hk, hb⟩ := hrel
    by_cases hlt : k < xs.length
    · obtain ⟨b1, o1, rfl, c1⟩ := h1.below hb k hlt
      obtain ⟨b2, o2, rfl, c2⟩ := h2.below hb k hlt
      clear h1 h2
      have k2 : (k : Int) < (xs.length : Int) := by omega
      have k3 : (0 : Int) ≤ (k : Int) := by omega
      go_wp2_with fail
      go_quiet (fail)
      go_wp2
      go_roundw
      case rel => exact ⟨k + 1, by go_num, by omega, ⟨hb.os, hb.tape, hb.output, hb.size, hb.block⟩⟩
      case measure => simp [intOf]; omega
    · go_wp2
      go_ret
      exact ⟨rfl, hb⟩
theorem sameBytes_len (a b : Option Addr) (c d n m : Nat) (xs : List Int) (w : World) (hn : xs.length = n) (hm : xs.length = m) (hl : xs.length ≤ maxLen) (h1 : BytesAt w a xs) (h2 : BytesAt w b xs) :
    Calls Try.prog 16 #[.slice a n c, .slice b m d] w fun e w' => e = .returned (.bool true) ∧ Below w.heap.size w w' := by
  subst hn; subst hm
  exact sameBytes_any a b c d xs w hl h1 h2

set_option maxRecDepth 100000 in
theorem opensWith_any (a : Option Addr) (c n : Nat) (s : ByteArray) (w : World) (hl : n ≤ maxLen) (hn : s.size ≤ n) (h1 : BytesAt w a (sb s)) :
    Calls Try.prog 44 #[.slice a n c, .string s] w fun e w' => e = .returned (.bool true) ∧ Below w.heap.size w w' := by
  unfold maxLen at hl
  go_enter Try.func44, Try.ntmps44
  go_wp2
  go_loopw [5] (fun i wr => ∃ (k : Nat), i = .int .i64 k ∧ k ≤ s.size ∧ Below w.heap.size w wr) (fun i _ => s.size + 1 - (intOf i).toNat)
  case atStart => exact ⟨0, rfl, Nat.zero_le _, Below.refl _ _⟩
  case round =>
    obtain ⟨k, rfl, hk, hb⟩ := hrel
    by_cases hlt : k < s.size
    · obtain ⟨b1, o1, rfl, c1⟩ := h1.below hb k (by rw [sb_len]; exact hlt)
      rw [sb_get s k _ hlt] at c1
      clear h1
      have k2 : (k : Int) < (s.size : Int) := by omega
      have k3 : (0 : Int) ≤ (k : Int) := by omega
      have k4 : (k : Int) < (n : Int) := by omega
      go_wp2_with fail
      go_quiet (fail)
      go_wp2
      go_roundw
      case rel => exact ⟨k + 1, by go_num, by omega, ⟨hb.os, hb.tape, hb.output, hb.size, hb.block⟩⟩
      case measure => simp [intOf]; omega
    · go_wp2
      go_ret
      exact ⟨rfl, hb⟩

set_option maxRecDepth 100000 in
theorem closesWith_any (a : Option Addr) (c : Nat) (xs : List Int) (s : ByteArray) (w : World) (hl : xs.length ≤ maxLen) (hn : s.size ≤ xs.length) (h1 : BytesAt w a xs)
    (he : ∀ k (hk : k < s.size), xs[xs.length - s.size + k]'(by omega) = (s[k].toNat : Int)) :
    Calls Try.prog 45 #[.slice a xs.length c, .string s] w fun e w' => e = .returned (.bool true) ∧ Below w.heap.size w w' := by
  unfold maxLen at hl
  have HE := hide he
  obtain ⟨n, hnn⟩ : ∃ n, n = xs.length - s.size := ⟨_, rfl⟩
  have hN := hide hnn
  have hni : (xs.length : Int) - (s.size : Int) = (n : Int) := by omega
  clear hnn he
  go_enter Try.func45, Try.ntmps45
  go_wp2_with fail
  go_loopw [6] (fun i wr => ∃ (k : Nat), i = .int .i64 k ∧ k ≤ s.size ∧ Below w.heap.size w wr) (fun i _ => s.size + 1 - (intOf i).toNat)
  case atStart => exact ⟨0, rfl, Nat.zero_le _, Below.refl _ _⟩
  case round =>
    obtain ⟨k, rfl, hk, hb⟩ := hrel
    by_cases hlt : k < s.size
    · obtain ⟨b1, o1, rfl, c1⟩ := h1.below hb (n + k) (by have := unhide hN; omega)
      have e := unhide HE k hlt
      simp only [← unhide hN] at e
      rw [e] at c1
      clear h1 e
      have k2 : (k : Int) < (s.size : Int) := by omega
      have k3 : (0 : Int) ≤ (k : Int) := by omega
      have k4 : (n : Int) + (k : Int) < (xs.length : Int) := by omega
      have k5 : (0 : Int) ≤ (n : Int) + (k : Int) := by omega
      go_wp2_with fail
      go_quiet (fail)
      go_wp2
      go_roundw
      case rel => exact ⟨k + 1, by go_num, by omega, ⟨hb.os, hb.tape, hb.output, hb.size, hb.block⟩⟩
      case measure => simp [intOf]; omega
    · go_wp2
      go_ret
      exact ⟨rfl, hb⟩
end Go.Proofs.Qxb6614903a
