import Derived.Test.Qxb6614903aParts
import Derived.Carry
import Derived.OpenShut
import Derived.Deep.Slices
namespace Go.Proofs.Qxb6614903a
open Go.ChangeShapes Go.WideShapes Go.ChangeAt Go.RowKit Go.Deep

theorem Try.cells5 : Try.prog.cellsOf 5 = 1 := by kernel_rfl
theorem Try.cells22 : Try.prog.cellsOf 22 = 1 := by kernel_rfl
theorem Try.laidOut : laidOutB Try.prog = true := by kernel_rfl
theorem own : ownKnob Try.prog.godebug = none := by kernel_rfl

section
variable {H : Type} {enc : TypeId × Value → H} {w : World} {base : Nat} {spare : Nat → Bool} {held : Bool}

/-- The address of a slice that has an element bears no spot. -/
theorem spot_none {a : Addr} {v : Value} (h : w.cell? (a.add 0) = some v) : a.spot = none := by
  simpa [Addr.add] using World.cell?_spot h

theorem bytes_of_raw {fuel : Nat} {v : Value} {x : DataW H × List MemPlace} (h : DataW.trod enc Try.prog w base spare held fuel 22 [v] = some x) :
    ∃ (ao : Option Addr) (cap : Nat) (bs : List Int), v = .slice ao bs.length cap ∧ bs.length ≤ cap ∧ cap ≤ maxLen ∧ BytesAt w ao bs ∧ (ao = none → cap = 0) := by
  rcases open_slice1 Try.underlying22 Try.cells5 h with ⟨hcs, _⟩ | ⟨a, len, cap, m, n, V, D, Pl, hcs, _, hl, hm, hmm, _, hx⟩
  · obtain rfl : v = .slice none 0 0 := by simpa using hcs
    exact ⟨none, 0, [], rfl, Nat.le_refl _, Nat.zero_le _, BytesAt.nil _ _, fun _ => rfl⟩
  · obtain rfl : v = .slice (some a) len cap := by simpa using hcs
    have hlm : len ≤ m := by rw [hmm]; split <;> omega
    obtain ⟨f, hf⟩ := @choose_lt Int ⟨0⟩ len (fun i s => w.cell? (a.add i) = some (.int .u8 s)) (fun i hi => by
      obtain ⟨h1, h2⟩ := hx i (by omega)
      obtain ⟨s, e, _⟩ := DataW.trod_int Try.underlying5 h2
      have e' : V i = .int .u8 s := by simpa using e
      exact ⟨s, by rw [h1, e']⟩)
    refine ⟨some a, cap, (List.range len).map f, by simp, by simpa using hl, hm, fun k hk => ?_, by simp⟩
    have hk' : k < len := by simpa using hk
    obtain ⟨b, off, spot⟩ := a
    obtain rfl : spot = none := spot_none (hf 0 (by omega))
    refine ⟨b, off, rfl, ?_⟩
    have := hf k hk'
    rw [Addr.add_lit] at this
    simpa using this

theorem bytes_of_trod {v : Value} {d : DataW H} {p : List MemPlace} (hv : ∃ a l c, v = .slice a l c) (h : DataW.Trod enc Try.prog w base spare held 22 v d p) :
    ∃ (ao : Option Addr) (cap : Nat) (bs : List Int), v = .slice ao bs.length cap ∧ bs.length ≤ cap ∧ cap ≤ maxLen ∧ BytesAt w ao bs ∧ (ao = none → cap = 0) := by
  obtain ⟨a0, l0, c0, rfl⟩ := hv
  obtain ⟨fuel, hf⟩ := h
  exact bytes_of_raw (v := .slice a0 l0 c0) (by simpa [Value.cells] using hf)

theorem parts_of_trod {v : Value} {d : DataW H} {p : List MemPlace} (hv : ∃ a l c, v = .slice a l c) (h : DataW.Trod enc Try.prog w base spare held 23 v d p) :
    ∃ (ao : Option Addr) (cap : Nat) (ls : List (List Int)), v = .slice ao ls.length cap ∧ ls.length ≤ cap ∧ cap ≤ maxLen ∧ PartsAt w ao ls ∧ (ao = none → cap = 0) := by
  obtain ⟨a0, l0, c0, rfl⟩ := hv
  obtain ⟨fuel, hf⟩ := h
  have hf' : DataW.trod enc Try.prog w base spare held fuel 23 [.slice a0 l0 c0] = some (d, p) := by simpa [Value.cells] using hf
  rcases open_slice1 Try.underlying23 Try.cells22 hf' with ⟨hcs, _⟩ | ⟨a, len, cap, m, n, V, D, Pl, hcs, _, hl, hm, hmm, _, hx⟩
  · obtain ⟨rfl, rfl, rfl⟩ : a0 = none ∧ l0 = 0 ∧ c0 = 0 := by simpa using hcs
    exact ⟨none, 0, [], rfl, Nat.le_refl _, Nat.zero_le _, fun k hk => by simp at hk, fun _ => rfl⟩
  · obtain ⟨rfl, rfl, rfl⟩ : a0 = some a ∧ l0 = len ∧ c0 = cap := by simpa using hcs
    have hlm : l0 ≤ m := by rw [hmm]; split <;> omega
    obtain ⟨f, hf⟩ := @choose_lt (List Int) ⟨[]⟩ l0 (fun i ss => ∃ ao c, w.cell? (a.add i) = some (.slice ao ss.length c) ∧ BytesAt w ao ss ∧ (ao = none → c = 0) ∧ ss.length ≤ maxLen) (fun i hi => by
      obtain ⟨h1, h2⟩ := hx i (by omega)
      obtain ⟨ao, c, ss, e, g1, g2, g3, g4⟩ := bytes_of_raw h2
      exact ⟨ss, ao, c, by rw [h1, e], g3, g4, Nat.le_trans g1 g2⟩)
    refine ⟨some a, c0, (List.range l0).map f, by simp, by simpa using hl, hm, fun k hk => ?_, by simp⟩
    have hk' : k < l0 := by simpa using hk
    obtain ⟨b, off, spot⟩ := a
    obtain rfl : spot = none := by
      obtain ⟨_, _, g, _⟩ := hf 0 (by omega)
      exact spot_none g
    obtain ⟨ao, c, g1, g2, g3, g4⟩ := hf k hk'
    rw [Addr.add_lit] at g1
    exact ⟨b, off, ao, c, rfl, by simpa using g1, by simpa using g2, g3, by simpa using g4⟩
end
end Go.Proofs.Qxb6614903a
