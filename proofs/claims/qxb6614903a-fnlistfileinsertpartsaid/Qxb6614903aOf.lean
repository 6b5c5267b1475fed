import Derived.Test.Qxb6614903aPhase
import Derived.OwnWalk
import Derived.LaidEqlPtr
namespace Go.Proofs.Qxb6614903a
open Go.RowKit

/-- PhaseOf's pointer beside the index n. -/
def AnsOk (ao : Option Addr) (n : Int) (p : Value) : Prop := (n = -1 ∧ p = .pointer none) ∨ ∃ k g : Nat, n = k ∧ ao = some ⟨g, 0, none⟩ ∧ p = .pointer (some ⟨g, k * 12, none⟩)
def IsAns (e : Ending) (ao : Option Addr) (n : Int) : Prop := ∃ p, e = .returned (.tuple #[p, .int .i64 n]) ∧ AnsOk ao n p

set_option maxRecDepth 100000 in
set_option maxHeartbeats 1000000 in
theorem phaseOf_any (S : Nat) (ao : Option Addr) (cap : Nat) (ls : List (List ByteArray)) (v : ByteArray) (w : World) (hl : ls.length ≤ maxLen) (h : PhAt w ao ls) (h2 : w.cell? ⟨S, 24, none⟩ = some (.slice ao ls.length cap)) :
    Calls Try.prog 21 #[.pointer (some ⟨S, 0, none⟩), .string v] w fun e w' => IsAns e ao (first ls v) ∧ Below w.heap.size w w' := by
  have hb : Below w.heap.size w (w.alloc (.cells #[.string v] 44)) := (Below.refl _ _).alloc (Nat.le_refl _) _
  have hS := World.block_lt_of_cell? w _ h2
  have h' := h.below hb
  have h2' := (hb.cell (p := ⟨S, 24, none⟩) hS).trans h2
  have h3 : (w.alloc (.cells #[.string v] 44)).cell? ⟨w.heap.size, 0, none⟩ = some (.string v) := by rw [cell_of_row _ _ 0 _ 44 (0, 0) (heap_alloc_new w _)]; rfl
  go_enter Try.func21, Try.ntmps21
  go_wp2_with fail
  refine (indexFunc_any ao cap w.heap.size ls v _ hl h' h3).mono ?_
  rintro e w1 ⟨rfl, hb1⟩
  have hb2 : Below w.heap.size w w1 := hb.trans (hb1.mono hb.size)
  have h4 := (hb2.cell (p := ⟨S, 24, none⟩) hS).trans h2
  have f1 := first_ge ls v
  have f2 := first_lt ls v
  by_cases hn : first ls v = -1
  · have HN := hide hn
    rw [hn]
    clear hn f1 f2 h h' h2 h2' h3 hb hb1 h4
    go_wp2
    go_ret2
    exact ⟨⟨.pointer none, by rw [unhide HN]; rfl, .inl ⟨unhide HN, rfl⟩⟩, hb2⟩
  · obtain ⟨k, hk⟩ : ∃ k : Nat, first ls v = k := ⟨(first ls v).toNat, by omega⟩
    have HK := hide hk
    rw [hk] at f2 ⊢
    have hlt : k < ls.length := by omega
    obtain ⟨g, a, c, rfl, -, -, -⟩ := h k hlt
    clear hk f1 f2 h h' h2 h2' h3 hb hb1 hn
    unfold maxLen at hl
    go_wp2
    go_ret2
    exact ⟨⟨.pointer (some ⟨g, k * 12, none⟩), by rw [unhide HK]; rfl, .inr ⟨k, g, unhide HK, rfl, rfl⟩⟩, hb2⟩

theorem eqlPtr (k g : Nat) (w : World) : (binOp .eql 65 (.pointer (some ⟨g, k * 12, none⟩)) (.pointer (some ⟨g, k * 12, none⟩))).run Try.prog w = .ok (.bool true) w := by
  obtain ⟨i, hi, -, -, -⟩ := info_parts Try.info118
  exact run_eql_ptr_same w _ Try.underlying65 hi

set_option maxRecDepth 100000 in
set_option maxHeartbeats 1000000 in
theorem answer_any (S : Nat) (ao : Option Addr) (cap len : Nat) (n m : Int) (p : Value) (w : World) (hn : n < len) (hp : AnsOk ao n p) (hm : n = m) (h2 : w.cell? ⟨S, 24, none⟩ = some (.slice ao len cap)) :
    Calls Try.prog 22 #[.pointer (some ⟨S, 0, none⟩), p, .int .i64 n, .int .i64 m] w fun e w' => e = .returned (.bool true) ∧ w' = w := by
  subst hm
  rcases hp with ⟨rfl, rfl⟩ | ⟨k, g, rfl, rfl, rfl⟩
  · go_enter Try.func22, Try.ntmps22
    go_wp2
    go_ret
    exact ⟨rfl, rfl⟩
  · have hk : k < len := by omega
    have hrun := eqlPtr k g w
    clear hn
    go_enter Try.func22, Try.ntmps22
    go_wp2
    go_ret
    exact ⟨rfl, rfl⟩
end Go.Proofs.Qxb6614903a
