import Derived.Test.Qxb6614881aNew
namespace Go.Proofs.Qxb6614881a
open Go.RowKit

/-! ### The guards -/
def IsInt (e : Ending) : Prop := ∃ n : Int, e = .returned (.int .i64 n)
theorem IsInt.mk (n : Int) : IsInt (.returned (.int .i64 n)) := ⟨n, rfl⟩
def IsBool (e : Ending) (R : Bool → Prop) : Prop := ∃ r, e = .returned (.bool r) ∧ R r
theorem IsBool.no {R : Bool → Prop} (h : R false) : IsBool (.returned (.bool false)) R := ⟨false, rfl, h⟩
def Any (_ : Bool) : Prop := True
theorem IsBool.any (r : Bool) : IsBool (.returned (.bool r)) Any := ⟨r, rfl, trivial⟩

set_option maxRecDepth 100000 in
theorem addStrings_any (z : Int) (ao : Option Addr) (cap : Nat) (ss : List ByteArray) (w : World) (hl : ss.length ≤ maxLen) (h : StrsAt w ao ss) :
    Calls Try.prog 12 #[.int .i64 z, .slice ao ss.length cap] w fun e w' => IsInt e ∧ w' = w := by
  unfold maxLen at hl
  go_enter Try.func12, Try.ntmps12
  go_wp2
  go_loop [0, 5] (fun t i => ∃ (k : Nat) (zz : Int), k ≤ ss.length ∧ i = .int .i64 k ∧ t = .int .i64 zz) (fun _ i => ss.length - (intOf i).toNat)
  case atStart => exact ⟨0, z, Nat.zero_le _, rfl, rfl⟩
  case round =>
    obtain ⟨k, zz, hk, rfl, rfl⟩ := hrel
    by_cases hlt : k < ss.length
    · obtain ⟨b, off, rfl, h1⟩ := h k hlt
      clear h
      by_cases hz : 1048576 < zz
      · go_wp2
        go_ret
        exact ⟨IsInt.mk _, rfl⟩
      · by_cases hs : (1048576 : Int) < ((ss[k].size : Nat) : Int)
        · go_wp2
          go_ret
          exact ⟨IsInt.mk _, rfl⟩
        · go_wp2
          go_round
          case rel => exact ⟨k + 1, _, hlt, by go_num, rfl⟩
          case measure => simp [intOf]; omega
    · go_wp2
      go_ret
      exact ⟨IsInt.mk _, rfl⟩

def lt (a b : ByteArray) : Bool := Op.bytesLess a.toList b.toList
def SortedTo (ss : List ByteArray) (k : Nat) : Prop := ∀ j (hj : j + 1 < ss.length), j + 1 < k → lt ss[j] ss[j + 1] = true
theorem SortedTo.one (ss : List ByteArray) : SortedTo ss 1 := fun j _ h => by omega
theorem SortedTo.succ {ss : List ByteArray} {k : Nat} (h : SortedTo ss (k + 1)) (hk : k + 1 < ss.length) (hn : lt ss[k] ss[k + 1] = true) : SortedTo ss (k + 1 + 1) := fun j hj h' => by
  by_cases e : j = k
  · subst e; exact hn
  · exact h j hj (by omega)

set_option maxRecDepth 100000 in
theorem sorted_any (ao : Option Addr) (cap : Nat) (ss : List ByteArray) (w : World) (hl : ss.length ≤ maxLen) (h : StrsAt w ao ss) :
    Calls Try.prog 13 #[.slice ao ss.length cap] w fun e w' => IsBool e (fun r => r = true → SortedTo ss ss.length) ∧ Below w.heap.size w w' := by
  unfold maxLen at hl
  go_enter Try.func13, Try.ntmps13
  go_wp2
  go_loopw [3] (fun i wr => ∃ (k : Nat), i = .int .i64 (k + 1 : Nat) ∧ k ≤ ss.length ∧ SortedTo ss (k + 1) ∧ Below w.heap.size w wr) (fun i _ => ss.length + 1 - (intOf i).toNat)
  case atStart => exact ⟨0, rfl, Nat.zero_le _, SortedTo.one _, Below.refl _ _⟩
  case round =>
    obtain ⟨k, rfl, hk, hs, hb⟩ := hrel
    have HS := hide hs
    clear hs
    by_cases hlt : k + 1 < ss.length
    · have hw := h.below hb
      obtain ⟨b, off, rfl, h1⟩ := hw k (by omega)
      obtain ⟨b', off', hbo, h2⟩ := hw (k + 1) hlt
      obtain ⟨rfl, rfl⟩ : b = b' ∧ off = off' := by simpa using hbo
      clear h hbo hw
      have k1 : (k : Int) + 1 < (ss.length : Int) := by omega
      have k2 : (k : Int) < (ss.length : Int) := by omega
      have k3 : (0 : Int) ≤ (k : Int) := by omega
      cases hc : lt ss[k] ss[k + 1] with
      | true =>
        have e1 : Op.bytesLess ss[k].toList ss[k + 1].toList = true := hc
        have HC := hide hc
        clear hc
        go_wp2_with fail
        go_quiet (fail)
        go_wp2
        go_roundw
        case rel => exact ⟨k + 1, by go_num, by omega, (unhide HS).succ hlt (unhide HC), ⟨hb.os, hb.tape, hb.output, hb.size, hb.block⟩⟩
        case measure => simp [intOf]; omega
      | false =>
        have e1 : Op.bytesLess ss[k].toList ss[k + 1].toList = false := hc
        clear hc
        go_wp2_with fail
        go_quiet (fail)
        go_wp2
        go_ret
        exact ⟨IsBool.no (by simp), ⟨hb.os, hb.tape, hb.output, hb.size, hb.block⟩⟩
    · go_wp2
      go_ret
      refine ⟨⟨true, rfl, fun _ => ?_⟩, hb⟩
      intro j hj h'
      exact unhide HS j hj (by omega)

set_option maxRecDepth 100000 in
set_option maxHeartbeats 1000000 in
theorem standingBytes_any (aa ta wa la ma pa : Option Addr) (ac tc wc lc mc pc : Nat) (adl ts ms ps : List ByteArray) (ws : List Bool) (ls : List (List ByteArray)) (table : ByteArray) (w : World)
    (h1 : adl.length ≤ maxLen) (hA : StrsAt w aa adl) (h2 : ts.length ≤ maxLen) (hT : StrsAt w ta ts) (h3 : ls.length ≤ maxLen) (hL : ListsAt w la ls) (h4 : ms.length ≤ maxLen) (hM : StrsAt w ma ms) (h5 : ps.length ≤ maxLen) (hP : StrsAt w pa ps) :
    Calls Try.prog 6 #[.slice aa adl.length ac, .slice ta ts.length tc, .slice wa ws.length wc, .slice la ls.length lc, .slice ma ms.length mc, .string table, .slice pa ps.length pc] w fun e w' => IsInt e ∧ w' = w := by
  by_cases g1 : (1048576 : Int) < ((table.size : Nat) : Int)
  · go_enter Try.func6, Try.ntmps6
    go_wp2
    go_ret
    exact ⟨IsInt.mk _, rfl⟩
  by_cases g2 : (1048576 : Int) < ((ws.length : Nat) : Int)
  · go_enter Try.func6, Try.ntmps6
    go_wp2
    go_ret
    exact ⟨IsInt.mk _, rfl⟩
  go_enter Try.func6, Try.ntmps6
  go_wp2_with fail
  refine (addStrings_any _ aa ac adl w h1 hA).mono ?_
  rintro e w' ⟨⟨n1, rfl⟩, rfl⟩
  go_wp2_with fail
  refine (addStrings_any _ ta tc ts _ h2 hT).mono ?_
  rintro e w' ⟨⟨n2, rfl⟩, rfl⟩
  rename World => w
  go_wp2_with fail
  unfold maxLen at h3
  go_loop [15, 16] (fun t i => ∃ (k : Nat) (zz : Int), k ≤ ls.length ∧ i = .int .i64 k ∧ t = .int .i64 zz) (fun _ i => ls.length - (intOf i).toNat)
  case atStart => exact ⟨0, _, Nat.zero_le _, rfl, rfl⟩
  case round =>
    obtain ⟨k, zz, hk, rfl, rfl⟩ := hrel
    by_cases hlt : k < ls.length
    · obtain ⟨b, off, a, c, rfl, c1, hs, hsl⟩ := hL k hlt
      by_cases hz : 1048576 < zz
      · go_wp2
        go_ret
        exact ⟨IsInt.mk _, rfl⟩
      · clear hL hA hT hM hP
        go_wp2_with fail
        refine (addStrings_any _ a c ls[k] _ hsl hs).mono ?_
        rintro e w' ⟨⟨n3, rfl⟩, rfl⟩
        go_wp2
        go_round
        case rel => exact ⟨k + 1, _, hlt, by go_num, rfl⟩
        case measure => simp [intOf]; omega
    · go_wp2_with fail
      refine (addStrings_any _ ma mc ms _ h4 hM).mono ?_
      rintro e w' ⟨⟨n3, rfl⟩, rfl⟩
      go_wp2_with fail
      refine (addStrings_any _ pa pc ps _ h5 hP).mono ?_
      rintro e w' ⟨⟨n4, rfl⟩, rfl⟩
      go_wp2
      go_ret
      exact ⟨IsInt.mk _, rfl⟩

set_option maxRecDepth 100000 in
set_option maxHeartbeats 2000000 in
theorem wellFormed_any (aa ta wa la ma : Option Addr) (ac tc wc lc mc : Nat) (adl ts ms : List ByteArray) (ws : List Bool) (ls : List (List ByteArray)) (w : World)
    (h1 : adl.length ≤ maxLen) (hA : StrsAt w aa adl) (h2 : ts.length ≤ maxLen) (hT : StrsAt w ta ts) (h3 : ls.length ≤ maxLen) (hL : ListsAt w la ls) (h4 : ms.length ≤ maxLen) (hM : StrsAt w ma ms) :
    Calls Try.prog 7 #[.slice aa adl.length ac, .slice ta ts.length tc, .slice wa ws.length wc, .slice la ls.length lc, .slice ma ms.length mc] w fun e w' =>
      IsBool e (fun r => r = true → ws.length = ts.length ∧ ls.length = ts.length ∧ SortedTo ts ts.length) ∧ Below w.heap.size w w' := by
  by_cases g1 : ws.length = ts.length
  · by_cases g2 : ls.length = ts.length
    · have e1 : (((ws.length : Nat) : Int) != ((ts.length : Nat) : Int)) = false := by rw [g1]; simp
      have e2 : (((ls.length : Nat) : Int) != ((ts.length : Nat) : Int)) = false := by rw [g2]; simp
      have G1 := hide g1
      have G2 := hide g2
      clear g1 g2
      go_enter Try.func7, Try.ntmps7
      go_wp2_with fail
      clear e1 e2
      refine (sorted_any aa ac adl w h1 hA).mono ?_
      rintro e w1 ⟨⟨r1, rfl, -⟩, hb1⟩
      cases r1 with
      | false =>
        go_wp2
        go_ret
        exact ⟨IsBool.no (by simp), hb1⟩
      | true =>
      replace hT := hT.below hb1
      replace hL := hL.below hb1
      replace hM := hM.below hb1
      clear hA
      go_wp2_with fail
      refine (sorted_any ta tc ts w1 h2 hT).mono ?_
      rintro e w2 ⟨⟨r2, rfl, hs2⟩, hb2⟩
      have hB2 := hb1.trans (hb2.mono hb1.size)
      cases r2 with
      | false =>
        go_wp2
        go_ret
        exact ⟨IsBool.no (by simp), hB2⟩
      | true =>
      have HS := hide (hs2 rfl)
      replace hL := hL.below hb2
      replace hM := hM.below hb2
      clear hT hb1 hb2 hs2
      go_wp2_with fail
      refine (sorted_any ma mc ms w2 h4 hM).mono ?_
      rintro e w3 ⟨⟨r3, rfl, -⟩, hb3⟩
      have hB3 := hB2.trans (hb3.mono hB2.size)
      cases r3 with
      | false =>
        go_wp2
        go_ret
        exact ⟨IsBool.no (by simp), hB3⟩
      | true =>
      replace hL := hL.below hb3
      clear hM hb3 hB2
      go_wp2_with fail
      unfold maxLen at h3
      go_loopw [11] (fun i wr => ∃ (k : Nat), k ≤ ls.length ∧ i = .int .i64 k ∧ Below w3.heap.size w3 wr) (fun i _ => ls.length - (intOf i).toNat)
      case atStart => exact ⟨0, Nat.zero_le _, rfl, Below.refl _ _⟩
      case round =>
        obtain ⟨k, hk, rfl, hb⟩ := hrel
        have hB4 := hB3.trans (hb.mono hB3.size)
        by_cases hlt : k < ls.length
        · obtain ⟨b, off, a, c, rfl, c1, hs, hsl⟩ := hL.below hb k hlt
          clear hL
          go_wp2_with fail
          refine (sorted_any a c ls[k] wr hsl hs).mono ?_
          rintro e w5 ⟨⟨r5, rfl, -⟩, hb5⟩
          clear c1 hs
          cases r5 with
          | false =>
            go_wp2
            go_ret
            exact ⟨IsBool.no (by simp), hB4.trans (hb5.mono hB4.size)⟩
          | true =>
            go_wp2
            go_roundw
            case rel => exact ⟨k + 1, hlt, by go_num, hb.trans (hb5.mono hb.size)⟩
            case measure => simp [intOf]; omega
        · go_wp2
          go_ret
          exact ⟨⟨true, rfl, fun _ => ⟨unhide G1, unhide G2, unhide HS⟩⟩, hB4⟩
    · have e1 : (((ws.length : Nat) : Int) != ((ts.length : Nat) : Int)) = false := by rw [g1]; simp
      have e2 : (((ls.length : Nat) : Int) != ((ts.length : Nat) : Int)) = true := by rw [bne_iff_ne]; omega
      clear g1 g2
      go_enter Try.func7, Try.ntmps7
      go_wp2
      go_ret
      exact ⟨IsBool.no (by simp), Below.refl _ _⟩
  · have e1 : (((ws.length : Nat) : Int) != ((ts.length : Nat) : Int)) = true := by rw [bne_iff_ne]; omega
    clear g1
    go_enter Try.func7, Try.ntmps7
    go_wp2
    go_ret
    exact ⟨IsBool.no (by simp), Below.refl _ _⟩
end Go.Proofs.Qxb6614881a
