import Derived.Test.Qxb6614903aPhase
import Derived.Carry
import Derived.OpenShut
import Derived.Deep.Slices
namespace Go.Proofs.Qxb6614903a
open Go.ChangeShapes Go.WideShapes Go.ChangeAt Go.RowKit Go.Deep

theorem Try.cells9 : Try.prog.cellsOf 9 = 1 := by kernel_rfl
theorem Try.cells4 : Try.prog.cellsOf 4 = 1 := by kernel_rfl
theorem Try.cells70 : Try.prog.cellsOf 70 = 1 := by kernel_rfl
theorem Try.laidOut : laidOutB Try.prog = true := by kernel_rfl
theorem own : ownKnob Try.prog.godebug = none := by kernel_rfl

section
variable {H : Type} {enc : TypeId × Value → H} {w : World} {base : Nat} {spare : Nat → Bool} {held : Bool}

/-- The address of a slice that has an element bears no spot. -/
theorem spot_none {a : Addr} {v : Value} (h : w.cell? (a.add 0) = some v) : a.spot = none := by
  simpa [Addr.add] using World.cell?_spot h

theorem strs_of_raw {fuel : Nat} {v : Value} {x : DataW H × List MemPlace} (h : DataW.trod enc Try.prog w base spare held fuel 70 [v] = some x) :
    ∃ (ao : Option Addr) (cap : Nat) (ss : List ByteArray), v = .slice ao ss.length cap ∧ ss.length ≤ cap ∧ cap ≤ maxLen ∧ StrsAt w ao ss := by
  rcases open_slice1 Try.underlying70 Try.cells9 h with ⟨hcs, _⟩ | ⟨a, len, cap, m, n, V, D, Pl, hcs, _, hl, hm, hmm, _, hx⟩
  · obtain rfl : v = .slice none 0 0 := by simpa using hcs
    exact ⟨none, 0, [], rfl, Nat.le_refl _, Nat.zero_le _, StrsAt.nil _ _⟩
  · obtain rfl : v = .slice (some a) len cap := by simpa using hcs
    have hlm : len ≤ m := by rw [hmm]; split <;> omega
    obtain ⟨f, hf⟩ := @choose_lt ByteArray ⟨.empty⟩ len (fun i s => w.cell? (a.add i) = some (.string s)) (fun i hi => by
      obtain ⟨h1, h2⟩ := hx i (by omega)
      obtain ⟨s, e, _⟩ := DataW.trod_string Try.underlying9 h2
      have e' : V i = .string s := by simpa using e
      exact ⟨s, by rw [h1, e']⟩)
    refine ⟨some a, cap, (List.range len).map f, by simp, by simpa using hl, hm, fun k hk => ?_⟩
    have hk' : k < len := by simpa using hk
    obtain ⟨b, off, spot⟩ := a
    obtain rfl : spot = none := spot_none (hf 0 (by omega))
    refine ⟨b, off, rfl, ?_⟩
    have := hf k hk'
    rw [Addr.add_lit] at this
    simpa using this

theorem strs_of_trod {v : Value} {d : DataW H} {p : List MemPlace} (hv : ∃ a l c, v = .slice a l c) (h : DataW.Trod enc Try.prog w base spare held 70 v d p) :
    ∃ (ao : Option Addr) (cap : Nat) (ss : List ByteArray), v = .slice ao ss.length cap ∧ ss.length ≤ cap ∧ cap ≤ maxLen ∧ StrsAt w ao ss := by
  obtain ⟨a0, l0, c0, rfl⟩ := hv
  obtain ⟨fuel, hf⟩ := h
  exact strs_of_raw (v := .slice a0 l0 c0) (by simpa [Value.cells] using hf)

theorem lists_of_trod {v : Value} {d : DataW H} {p : List MemPlace} (hv : ∃ a l c, v = .slice a l c) (h : DataW.Trod enc Try.prog w base spare held 34 v d p) :
    ∃ (ao : Option Addr) (cap : Nat) (ls : List (List ByteArray)), v = .slice ao ls.length cap ∧ ls.length ≤ cap ∧ cap ≤ maxLen ∧ ListsAt w ao ls := by
  obtain ⟨a0, l0, c0, rfl⟩ := hv
  obtain ⟨fuel, hf⟩ := h
  have hf' : DataW.trod enc Try.prog w base spare held fuel 34 [.slice a0 l0 c0] = some (d, p) := by simpa [Value.cells] using hf
  rcases open_slice1 Try.underlying34 Try.cells70 hf' with ⟨hcs, _⟩ | ⟨a, len, cap, m, n, V, D, Pl, hcs, _, hl, hm, hmm, _, hx⟩
  · obtain ⟨rfl, rfl, rfl⟩ : a0 = none ∧ l0 = 0 ∧ c0 = 0 := by simpa using hcs
    exact ⟨none, 0, [], rfl, Nat.le_refl _, Nat.zero_le _, fun k hk => by simp at hk⟩
  · obtain ⟨rfl, rfl, rfl⟩ : a0 = some a ∧ l0 = len ∧ c0 = cap := by simpa using hcs
    have hlm : l0 ≤ m := by rw [hmm]; split <;> omega
    obtain ⟨f, hf⟩ := @choose_lt (List ByteArray) ⟨[]⟩ l0 (fun i ss => ∃ ao c, w.cell? (a.add i) = some (.slice ao ss.length c) ∧ StrsAt w ao ss ∧ ss.length ≤ maxLen) (fun i hi => by
      obtain ⟨h1, h2⟩ := hx i (by omega)
      obtain ⟨ao, c, ss, e, g1, g2, g3⟩ := strs_of_raw h2
      exact ⟨ss, ao, c, by rw [h1, e], g3, Nat.le_trans g1 g2⟩)
    refine ⟨some a, c0, (List.range l0).map f, by simp, by simpa using hl, hm, fun k hk => ?_⟩
    have hk' : k < l0 := by simpa using hk
    obtain ⟨b, off, spot⟩ := a
    obtain rfl : spot = none := by
      obtain ⟨_, _, g, _⟩ := hf 0 (by omega)
      exact spot_none g
    obtain ⟨ao, c, g1, g2, g3⟩ := hf k hk'
    rw [Addr.add_lit] at g1
    exact ⟨b, off, ao, c, rfl, by simpa using g1, by simpa using g2, by simpa using g3⟩
end
end Go.Proofs.Qxb6614903a
