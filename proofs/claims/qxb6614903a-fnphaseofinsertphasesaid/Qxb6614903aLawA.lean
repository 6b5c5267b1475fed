import Derived.Test.Qxb6614903aBytesA
namespace Go.Proofs.Qxb6614903a
open Go.RowKit

theorem ListsAt.take {w : World} {ao : Option Addr} {ls : List (List ByteArray)} (h : ListsAt w ao ls) (c : Nat) : ListsAt w ao (ls.take c) := by
  intro k hk
  have hk' : k < ls.length := by simp at hk; omega
  have e : (ls.take c)[k] = ls[k] := by simp
  rw [e]
  exact h k hk'
theorem ListsAt.drop {w : World} {ao : Option Addr} {ls : List (List ByteArray)} (h : ListsAt w ao ls) (c cap : Nat) (hc : ls.length ≤ cap) : ListsAt w (if cap = c then ao else ao.map (fun x => x.add c)) (ls.drop c) := by
  intro k hk
  have hk' : c + k < ls.length := by simp at hk; omega
  obtain ⟨b, off, a, cc, h1, h2, h3, h4⟩ := h (c + k) hk'
  have e : (ls.drop c)[k] = ls[c + k] := by simp
  rw [if_neg (by omega), e]
  refine ⟨b, off + c, a, cc, by simp [h1, Addr.add], ?_, h3, h4⟩
  rw [Nat.add_assoc]; exact h2

/-- A state that holds nothing but its phases. -/
abbrev csv (v : Value) : Obj := .cells #[.int .i64 0, .int .i64 0, .string ⟨#[]⟩, .int .i64 0, .int .i64 0, .int .i64 0, .bool false, .int .i64 0, .int .i64 0, .int .i64 0, .int .i64 0, .bool false, .pointer none, .pointer none, .pointer none, .int .i64 0, .slice none 0 0, .slice none 0 0, .map none, .map none, .map none, .map none, .pointer none, .map none, v, .pointer none, .int .u64 0, .int .i64 0, .pointer none, .int .u64 0, .int .i64 0, .pointer none] 64
theorem csv_at (w : World) (v : Value) : (w.alloc (csv v)).cell? ⟨w.heap.size, 24, none⟩ = some v := by
  rw [cell_of_row _ _ 24 _ 64 (0, 0) (heap_alloc_new w _)]; rfl
theorem cell_below {w w' : World} {a : Addr} {v : Value} (h : w.cell? a = some v) (hb : Below w.heap.size w w') : w'.cell? a = some v := (hb.cell (p := a) (World.block_lt_of_cell? w _ h)).trans h
theorem phaseList_len (ao : Option Addr) (cap n : Nat) (ls : List (List ByteArray)) (w : World) (hn : ls.length = n) (hl : ls.length ≤ 1048576) (hm : ∀ k (hk : k < ls.length), ls[k].length ≤ 1048576) (h : ListsAt w ao ls) :
    Calls Try.prog 20 #[.slice ao n cap] w fun e w' => (∃ go c, e = .returned (.slice go ls.length c) ∧ PhAt w' go ls) ∧ Below w.heap.size w w' := by
  subst hn
  exact phaseList_any ao cap ls w hl hm h

theorem phaseOf_len (S : Nat) (ao : Option Addr) (cap n : Nat) (ls : List (List ByteArray)) (v : ByteArray) (w : World) (hn : ls.length = n) (hl : n ≤ maxLen) (h : PhAt w ao ls) (h2 : w.cell? ⟨S, 24, none⟩ = some (.slice ao n cap)) :
    Calls Try.prog 21 #[.pointer (some ⟨S, 0, none⟩), .string v] w fun e w' => IsAns e ao (first ls v) ∧ Below w.heap.size w w' := by
  subst hn
  exact phaseOf_any S ao cap ls v w hl h h2

theorem firstPhase_len (ao : Option Addr) (cap n : Nat) (ls : List (List ByteArray)) (v : ByteArray) (w : World) (hn : ls.length = n) (hl : n ≤ maxLen) (h : ListsAt w ao ls) :
    Calls Try.prog 23 #[.slice ao n cap, .string v] w fun e w' => e = .returned (.int .i64 (first ls v)) ∧ w' = w := by
  subst hn
  exact firstPhase_any ao cap ls v w hl h

set_option maxRecDepth 100000 in
set_option maxHeartbeats 4000000 in
theorem law5 (ao : Option Addr) (cap : Nat) (ls : List (List ByteArray)) (cc : Int) (v : ByteArray) (w : World) (hl : ls.length ≤ maxLen) (h : ListsAt w ao ls) (hcap : ls.length ≤ cap) :
    Calls Try.prog 5 #[.slice ao ls.length cap, .int .i64 cc, .string v] w fun e w' => e = .returned (.bool true) ∧ Below w.heap.size w w' := by
  go_enter Try.func5, Try.ntmps5
  go_wp2_with fail
  refine (bytes18_any ao cap ls cc v w hl h).mono ?_
  rintro e w' ⟨⟨r, rfl, hlens⟩, rfl⟩
  rename World => w
  cases r with
  | false =>
    go_wp2
    go_ret
    exact ⟨rfl, Below.refl _ _⟩
  | true =>
  obtain ⟨l1, l2⟩ := hlens rfl
  clear hlens
  go_wp2_with fail
  refine (over_any ao none cap 0 ls [] v w hl h (Nat.zero_le _) (StrsAt.nil _ _)).mono ?_
  rintro e w' ⟨⟨r, rfl, -⟩, rfl⟩
  rename World => w
  cases r with
  | true =>
    go_wp2
    go_ret
    exact ⟨rfl, Below.refl _ _⟩
  | false =>
  by_cases hc0 : cc < 0
  · go_wp2
    go_ret
    exact ⟨rfl, Below.refl _ _⟩
  by_cases hc1 : (ls.length : Int) < cc
  · go_wp2
    go_ret
    exact ⟨rfl, Below.refl _ _⟩
  obtain ⟨c, rfl⟩ : ∃ c : Nat, cc = c := ⟨cc.toNat, by omega⟩
  have hcl : c ≤ ls.length := by omega
  go_wp2_with fail
  refine (phaseList_any ao cap ls w l1 l2 h).mono ?_
  rintro e w1 ⟨⟨sa, sc, rfl, hS⟩, hb1⟩
  go_wp2_with fail
  obtain ⟨w2, hw2⟩ : ∃ w2, w2 = w1.alloc (csv (.slice sa ls.length sc)) := ⟨_, rfl⟩
  have hs2 : w2.cell? ⟨w1.heap.size, 24, none⟩ = some (.slice sa ls.length sc) := by rw [hw2]; exact csv_at _ _
  have hb2 : Below w1.heap.size w1 w2 := by rw [hw2]; exact (Below.refl _ _).alloc (Nat.le_refl _) _
  rw [← hw2]
  have h2 := h.below (hb1.trans (hb2.mono hb1.size))
  have hS2 := hS.below hb2
  have hB2 : Below w.heap.size w w2 := hb1.trans (hb2.mono hb1.size)
  generalize w1.heap.size = N1 at hs2 ⊢
  clear hw2 hb2 hb1 hS h
  have htl : (ls.take c).length = c := by simp; omega
  have HTL := hide htl
  have hdl : (ls.drop c).length = ls.length - c := by simp
  have HDL := hide hdl
  refine (phaseList_len ao cap c (ls.take c) w2 htl (by omega) (fun k hk => by have hk' : k < ls.length := by omega
                                                                               have := l2 k hk'; simpa using this) (h2.take c)).mono ?_
  rintro e w3 ⟨⟨aa, ac, rfl, hA⟩, hb3⟩
  rw [htl]
  clear htl hdl
  have h3 := h2.below hb3
  have hS3 := hS2.below hb3
  have hs3 := cell_below hs2 hb3
  have hB3 : Below w.heap.size w w3 := hB2.trans (hb3.mono hB2.size)
  clear h2 hS2 hs2 hB2 hb3
  have i1 : (0 : Int) ≤ (c : Int) := by omega
  have i2 : (c : Int) ≤ (ls.length : Int) := by omega
  have i3 : (c : Int) ≤ (cap : Int) := by omega
  go_upto_region 9 with fail
  obtain ⟨w4, hw4⟩ : ∃ w4, w4 = w3.alloc (csv (.slice aa c ac)) := ⟨_, rfl⟩
  have hb4 : Below w3.heap.size w3 w4 := by rw [hw4]; exact (Below.refl _ _).alloc (Nat.le_refl _) _
  have ha4 : w4.cell? ⟨w3.heap.size, 24, none⟩ = some (.slice aa c ac) := by rw [hw4]; exact csv_at _ _
  rw [← hw4]
  have h4 := h3.below hb4
  have hS4 := hS3.below hb4
  have hA4 := hA.below hb4
  have hs4 := cell_below hs3 hb4
  have hB4 : Below w.heap.size w w4 := hB3.trans (hb4.mono hB3.size)
  generalize w3.heap.size = N2 at ha4 ⊢
  clear h3 hS3 hA hs3 hB3 hb4 hw4
  have l3 : (ls.drop c).length ≤ 1048576 := by rw [unhide HDL]; omega
  have l4 : ∀ k (hk : k < (ls.drop c).length), (ls.drop c)[k].length ≤ 1048576 := fun k hk => by
    have hk' : c + k < ls.length := by have := unhide HDL; omega
    have := l2 (c + k) hk'
    simpa using this
  have L4 := hide l4
  have L3 := hide l3
  clear l3 l4
  go_cut [9] (fun x wr => ∃ N3 ba bc, x = .pointer (some ⟨N3, 0, none⟩) ∧ wr.cell? ⟨N3, 24, none⟩ = some (.slice ba (ls.length - c) bc) ∧ PhAt wr ba (ls.drop c) ∧ Below w4.heap.size w4 wr)
  case first =>
    have hd := h4.drop c cap hcap
    by_cases hcc : cap = c
    · subst hcc
      rw [if_pos rfl] at hd
      clear h4 hS4 hA4 hs4 ha4
      go_wp2_with fail
      refine (phaseList_len ao 0 0 (ls.drop cap) w4 (by rw [unhide HDL]; omega) (unhide L3) (unhide L4) hd).mono ?_
      rintro e w5 ⟨⟨ba, bc, rfl, hBp⟩, hb5⟩
      rw [unhide HDL]
      go_wp2
      go_meet
      case rel => exact ⟨w5.heap.size, ba, bc, rfl, by rw [show ls.length - cap = 0 by omega]; exact csv_at _ _, hBp.below ((Below.refl _ _).alloc (Nat.le_refl _) _), hb5.alloc hb5.size _⟩
    · rw [if_neg hcc] at hd
      clear h4 hS4 hA4 hs4 ha4
      go_wp2_with fail
      refine (phaseList_len _ (cap - c) (ls.length - c) (ls.drop c) w4 (unhide HDL) (unhide L3) (unhide L4) hd).mono ?_
      rintro e w5 ⟨⟨ba, bc, rfl, hBp⟩, hb5⟩
      rw [unhide HDL]
      go_wp2
      go_meet
      case rel => exact ⟨w5.heap.size, ba, bc, rfl, csv_at _ _, hBp.below ((Below.refl _ _).alloc (Nat.le_refl _) _), hb5.alloc hb5.size _⟩
  rename World => w5
  obtain ⟨N3, ba, bc, rfl, hs5, hBp, hb5⟩ := hcut
  have h5 := h4.below hb5
  have hS5 := hS4.below hb5
  have hA5 := hA4.below hb5
  have hw5 := cell_below hs4 hb5
  have ha5 := cell_below ha4 hb5
  have hB5 : Below w.heap.size w w5 := hB4.trans (hb5.mono hB4.size)
  clear h4 hS4 hA4 hs4 ha4 hB4 hb5
  go_wp2_with fail
  refine (phaseOf_len N1 sa sc ls.length ls v w5 rfl (by unfold maxLen; omega) hS5 hw5).mono ?_
  rintro e w6 ⟨⟨pw, rfl, anw⟩, hbq⟩
  replace h5 := h5.below hbq
  replace hS5 := hS5.below hbq
  replace hA5 := hA5.below hbq
  replace hBp := hBp.below hbq
  replace hw5 := cell_below hw5 hbq
  replace ha5 := cell_below ha5 hbq
  replace hs5 := cell_below hs5 hbq
  replace hB5 := hB5.trans (hbq.mono hB5.size)
  have ANw := hide anw
  clear hbq anw
  go_wp2_with fail
  refine (phaseOf_len N2 aa ac c (ls.take c) v w6 (unhide HTL) (by unfold maxLen; omega) hA5 ha5).mono ?_
  rintro e w7 ⟨⟨pa, rfl, ana⟩, hbq⟩
  replace h5 := h5.below hbq
  replace hS5 := hS5.below hbq
  replace hA5 := hA5.below hbq
  replace hBp := hBp.below hbq
  replace hw5 := cell_below hw5 hbq
  replace ha5 := cell_below ha5 hbq
  replace hs5 := cell_below hs5 hbq
  replace hB5 := hB5.trans (hbq.mono hB5.size)
  have ANa := hide ana
  clear hbq ana
  go_wp2_with fail
  refine (phaseOf_len N3 ba bc (ls.length - c) (ls.drop c) v w7 (unhide HDL) (by unfold maxLen; omega) hBp hs5).mono ?_
  rintro e w8 ⟨⟨pb, rfl, anb⟩, hbq⟩
  replace h5 := h5.below hbq
  replace hS5 := hS5.below hbq
  replace hA5 := hA5.below hbq
  replace hBp := hBp.below hbq
  replace hw5 := cell_below hw5 hbq
  replace ha5 := cell_below ha5 hbq
  replace hs5 := cell_below hs5 hbq
  replace hB5 := hB5.trans (hbq.mono hB5.size)
  have ANb := hide anb
  clear hbq anb
  go_wp2_with fail
  refine (firstPhase_any ao cap ls v w8 hl h5).mono ?_
  rintro e w' ⟨rfl, rfl⟩
  rename World => w8
  go_wp2_with fail
  refine (answer_any N1 sa sc ls.length (first ls v) (first ls v) pw w8 (first_lt _ _) (unhide ANw) rfl hw5).mono ?_
  rintro e w' ⟨rfl, rfl⟩
  rename World => w8
  go_wp2_with fail
  refine (firstPhase_len ao cap c (ls.take c) v w8 (unhide HTL) (by unfold maxLen; omega) (h5.take c)).mono ?_
  rintro e w' ⟨rfl, rfl⟩
  rename World => w8
  go_wp2_with fail
  refine (answer_any N2 aa ac c (first (ls.take c) v) (first (ls.take c) v) pa w8 (by have := first_lt (ls.take c) v; rw [unhide HTL] at this; exact this) (unhide ANa) rfl ha5).mono ?_
  rintro e w' ⟨rfl, rfl⟩
  rename World => w8
  go_upto_region 18 with fail
  go_cut [96] (fun x wr => x = .bool false ∧ wr = w8)
  case first =>
    have hd := h5.drop c cap hcap
    have f3 : first (ls.drop c) v < (ls.length - c : Nat) := by have := first_lt (ls.drop c) v; rw [unhide HDL] at this; exact this
    by_cases hcc : cap = c
    · subst hcc
      rw [if_pos rfl] at hd
      go_wp2_with fail
      refine (firstPhase_len ao 0 0 (ls.drop cap) v w8 (by rw [unhide HDL]; omega) (Nat.zero_le _) hd).mono ?_
      rintro e w' ⟨rfl, rfl⟩
      rename World => w8
      go_wp2_with fail
      refine (answer_any N3 ba bc (ls.length - cap) (first (ls.drop cap) v) (first (ls.drop cap) v) pb w8 f3 (unhide ANb) rfl hs5).mono ?_
      rintro e w' ⟨rfl, rfl⟩
      rename World => w8
      go_wp2
      go_meet
      case rel => exact ⟨rfl, rfl⟩
    · rw [if_neg hcc] at hd
      go_wp2_with fail
      refine (firstPhase_len _ (cap - c) (ls.length - c) (ls.drop c) v w8 (unhide HDL) (by unfold maxLen; omega) hd).mono ?_
      rintro e w' ⟨rfl, rfl⟩
      rename World => w8
      go_wp2_with fail
      refine (answer_any N3 ba bc (ls.length - c) (first (ls.drop c) v) (first (ls.drop c) v) pb w8 f3 (unhide ANb) rfl hs5).mono ?_
      rintro e w' ⟨rfl, rfl⟩
      rename World => w8
      go_wp2
      go_meet
      case rel => exact ⟨rfl, rfl⟩
  rename World => w9
  obtain ⟨rfl, rfl⟩ := hcut
  have key := first_append (ls.take c) (ls.drop c) v
  rw [List.take_append_drop, unhide HTL] at key
  have ga := first_ge (ls.take c) v
  have gb := first_ge (ls.drop c) v
  have gb2 := first_lt (ls.drop c) v
  rw [unhide HDL] at gb2
  generalize first (ls.take c) v = fa at key ga ⊢
  generalize first (ls.drop c) v = fb at key gb gb2 ⊢
  generalize first ls v = fw at key ⊢
  clear h5 hS5 hA5 hBp hw5 ha5 hs5 ANw ANa ANb L3 L4 HTL HDL
  have KEY := hide key
  clear key
  by_cases h1 : 0 ≤ fa
  · have e : fw = fa := by have := unhide KEY; rw [if_pos h1] at this; exact this
    subst e
    go_wp2
    go_ret
    exact ⟨by simp, hB5⟩
  · by_cases h2 : 0 ≤ fb
    · have e : fw = c + fb := by have := unhide KEY; rw [if_neg h1, if_pos h2] at this; exact this
      subst e
      go_wp2
      go_ret
      exact ⟨by simp, hB5⟩
    · have e : fw = -1 := by have := unhide KEY; rw [if_neg h1, if_neg h2] at this; exact this
      subst e
      go_wp2
      go_ret
      exact ⟨by simp, hB5⟩
end Go.Proofs.Qxb6614903a
