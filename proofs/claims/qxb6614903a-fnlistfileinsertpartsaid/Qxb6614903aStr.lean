import Derived.Test.Qxb6614903aRows
import Derived.WalkKit
import Derived.ProofKit
import Derived.Deep.AppendLies
import Derived.Deep.RegionHeld3
import Derived.Deep.DrawnRows
import Derived.Deep.QuietTactic
import Derived.BigQuiet
import Derived.Laws.StructEq
namespace Go.Proofs.Qxb6614903a
open Go.RowKit

theorem hide {p : Prop} (h : p) : Hid p := h
theorem unhide {p : Prop} (h : Hid p) : p := h

/-! ### Strings in memory -/
/-- The strings ss lie at the slice's address ao (of none nothing is said). -/
def StrsAt (w : World) (ao : Option Addr) (ss : List ByteArray) : Prop :=
  ∀ k (hk : k < ss.length), ∃ b off, ao = some ⟨b, off, none⟩ ∧ w.cell? ⟨b, off + k, none⟩ = some (.string ss[k])

theorem StrsAt.below {w w' : World} {ao : Option Addr} {ss : List ByteArray} (h : StrsAt w ao ss) (hb : Below w.heap.size w w') : StrsAt w' ao ss := by
  intro k hk
  obtain ⟨b, off, h1, h2⟩ := h k hk
  exact ⟨b, off, h1, (hb.cell (p := ⟨b, off + k, none⟩) (World.block_lt_of_cell? w _ h2)).trans h2⟩

theorem StrsAt.nil (w : World) (ao : Option Addr) : StrsAt w ao [] := fun k hk => by simp at hk

theorem toList_inj {a b : ByteArray} (h : a.toList = b.toList) : a = b := by
  rw [ByteArray.toList_eq, ByteArray.toList_eq] at h
  obtain ⟨⟨x⟩⟩ := a
  obtain ⟨⟨y⟩⟩ := b
  simp at h
  subst h
  rfl
/-- Is v among ss? -/
def has (ss : List ByteArray) (v : ByteArray) : Bool := ss.any fun s => v.toList == s.toList
theorem has_iff {ss : List ByteArray} {v : ByteArray} : has ss v = true ↔ v ∈ ss := by
  unfold has
  rw [List.any_eq_true]
  refine ⟨fun ⟨s, hs, he⟩ => ?_, fun h => ⟨v, h, by simp⟩⟩
  rw [toList_inj (beq_iff_eq.1 he)]; exact hs

theorem beq_ne {a b : ByteArray} (h : ¬ a = b) : (a.toList == b.toList) = false := by
  rw [beq_eq_false_iff_ne]
  exact fun e => h (toList_inj e)
theorem beq_self' (a : ByteArray) : (a.toList == a.toList) = true := by simp

/-- None of the first k is v. -/
def NotIn (ss : List ByteArray) (v : ByteArray) (k : Nat) : Prop := ∀ j (hj : j < ss.length), j < k → ¬ v = ss[j]
theorem NotIn.zero (ss : List ByteArray) (v : ByteArray) : NotIn ss v 0 := fun j _ h => by omega
theorem NotIn.succ {ss : List ByteArray} {v : ByteArray} {k : Nat} (h : NotIn ss v k) (hk : k < ss.length) (hn : ¬ v = ss[k]) : NotIn ss v (k + 1) := fun j hj h' => by
  by_cases e : j = k
  · subst e; exact hn
  · exact h j hj (by omega)
theorem NotIn.all {ss : List ByteArray} {v : ByteArray} (h : NotIn ss v ss.length) : has ss v = false := by
  rw [← Bool.not_eq_true, has_iff]
  intro hm
  obtain ⟨j, hj, e⟩ := List.getElem_of_mem hm
  exact h j hj hj e.symm
theorem has_at {ss : List ByteArray} {v : ByteArray} {k : Nat} (hk : k < ss.length) (h : v = ss[k]) : has ss v = true := by
  rw [has_iff, h]
  exact List.getElem_mem hk

/-- An index that is found (b) or not. -/
def IsIdx (e : Ending) (b : Bool) : Prop := ∃ n : Int, e = .returned (.int .i64 n) ∧ decide (0 ≤ n) = b
theorem IsIdx.yes {b : Bool} (k : Nat) (h : b = true) : IsIdx (.returned (.int .i64 k)) b := ⟨k, rfl, by rw [h]; simp⟩
theorem IsIdx.no {b : Bool} (h : b = false) : IsIdx (.returned (.int .i64 (-1))) b := ⟨-1, rfl, by rw [h]; rfl⟩

set_option maxRecDepth 100000 in
theorem index_any (ao : Option Addr) (cap : Nat) (ss : List ByteArray) (v : ByteArray) (w : World) (hl : ss.length ≤ maxLen) (h : StrsAt w ao ss) :
    Calls Try.prog 64 #[.slice ao ss.length cap, .string v] w fun e w' => IsIdx e (has ss v) ∧ w' = w := by
  unfold maxLen at hl
  go_enter Try.func64, Try.ntmps64
  go_wp2
  go_loop [8] (fun i => ∃ k : Nat, k ≤ ss.length ∧ i = .int .i64 k ∧ NotIn ss v k) (fun i => ss.length - (intOf i).toNat)
  case atStart => exact ⟨0, Nat.zero_le _, rfl, NotIn.zero _ _⟩
  case round =>
    obtain ⟨k, hk, rfl, hn⟩ := hrel
    have HN := hide hn
    clear hn
    by_cases hlt : k < ss.length
    · obtain ⟨b, off, rfl, h1⟩ := h k hlt
      clear h
      by_cases hv : v = ss[k]
      · have e1 : (v.toList == ss[k].toList) = true := by rw [← hv]; simp
        have HV := hide hv
        clear hv
        go_wp2
        go_ret
        exact ⟨IsIdx.yes k (has_at hlt (unhide HV)), rfl⟩
      · have e1 := beq_ne hv
        have HV := hide hv
        clear hv
        go_wp2
        go_round
        case rel => exact ⟨k + 1, hlt, by go_num, (unhide HN).succ hlt (unhide HV)⟩
        case measure => simp [intOf]; omega
    · have e : k = ss.length := by omega
      have hno : has ss v = false := (e ▸ unhide HN : NotIn ss v ss.length).all
      have HNO := hide hno
      clear hno e
      go_wp2
      go_ret
      exact ⟨IsIdx.no (unhide HNO), rfl⟩

theorem contains_any (ao : Option Addr) (cap : Nat) (ss : List ByteArray) (v : ByteArray) (w : World) (hl : ss.length ≤ maxLen) (h : StrsAt w ao ss) :
    Calls Try.prog 48 #[.slice ao ss.length cap, .string v] w fun e w' => e = .returned (.bool (has ss v)) ∧ w' = w := by
  go_enter Try.func48, Try.ntmps48
  go_wp2_with fail
  refine (index_any ao cap ss v w hl h).mono ?_
  rintro e w' ⟨⟨n, rfl, hn⟩, rfl⟩
  go_wp2
  go_ret
  exact ⟨rfl, rfl⟩

set_option maxRecDepth 100000 in
theorem hasGo_any (ao : Option Addr) (cap : Nat) (ss : List ByteArray) (v : ByteArray) (w : World) (hl : ss.length ≤ maxLen) (h : StrsAt w ao ss) :
    Calls Try.prog 25 #[.slice ao ss.length cap, .string v] w fun e w' => e = .returned (.bool (has ss v)) ∧ w' = w := by
  unfold maxLen at hl
  go_enter Try.func25, Try.ntmps25
  go_wp2
  go_loop [5] (fun i => ∃ k : Nat, k ≤ ss.length ∧ i = .int .i64 k ∧ NotIn ss v k) (fun i => ss.length - (intOf i).toNat)
  case atStart => exact ⟨0, Nat.zero_le _, rfl, NotIn.zero _ _⟩
  case round =>
    obtain ⟨k, hk, rfl, hn⟩ := hrel
    have HN := hide hn
    clear hn
    by_cases hlt : k < ss.length
    · obtain ⟨b, off, rfl, h1⟩ := h k hlt
      clear h
      by_cases hv : v = ss[k]
      · have e1 : (ss[k].toList == v.toList) = true := by rw [← hv]; simp
        have HV := hide hv
        clear hv
        go_wp2
        go_ret
        exact ⟨by rw [has_at hlt (unhide HV)]; rfl, rfl⟩
      · have e1 := beq_ne (fun e : ss[k] = v => hv e.symm)
        have HV := hide hv
        clear hv
        go_wp2
        go_round
        case rel => exact ⟨k + 1, hlt, by go_num, (unhide HN).succ hlt (unhide HV)⟩
        case measure => simp [intOf]; omega
    · have e : k = ss.length := by omega
      have hno : has ss v = false := (e ▸ unhide HN : NotIn ss v ss.length).all
      have HNO := hide hno
      clear hno e
      go_wp2
      go_ret
      exact ⟨by rw [unhide HNO]; rfl, rfl⟩
end Go.Proofs.Qxb6614903a
