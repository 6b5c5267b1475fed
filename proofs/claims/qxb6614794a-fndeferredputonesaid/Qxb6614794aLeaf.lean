import Derived.Test.Qxb6614794aRows
import Derived.WalkKit
import Derived.ProofKit
import Derived.Deep.AppendLies
import Derived.Deep.RegionHeld3
import Derived.Deep.DrawnRows
import Derived.Deep.QuietTactic
import Derived.BigQuiet
namespace Go.Proofs.Qxb6614794a
open Go.RowKit

/-- One part as a list of plain data. -/
structure Part where
  id : ByteArray
  acc : ByteArray
  cls : ByteArray
  outl : ByteArray
  due : Int
  traded : Int
  shares : Int

def hpCells (p : Part) : List Value := [.string p.id, .string p.acc, .string p.cls, .string p.outl, .int .i32 p.due, .int .i32 p.traded, .int .i64 p.shares, .int .i64 2]
/-- the bytes of 'redeem' -/
def redeem : ByteArray := { data := #[114, 101, 100, 101, 101, 109] }
def ordCells (p : Part) : Array Value := #[.int .i32 0, .bool false, .string p.id, .string p.acc, .string p.cls, .string p.outl, .string redeem, .string ⟨#[]⟩, .string ⟨#[]⟩]
def dpCells (p : Part) : List Value := [.int .i32 0, .bool false, .string p.id, .string p.acc, .string p.cls, .string p.outl, .string redeem, .string ⟨#[]⟩, .string ⟨#[]⟩, .int .i32 p.due, .int .i32 p.traded, .int .i64 p.shares, .int .i64 2]

theorem Try.info70 : (Try.prog.info? 70).map (fun i => (i.zero, i.size, i.bytes)) = some (some (.agg #[.string ⟨#[]⟩, .string ⟨#[]⟩, .string ⟨#[]⟩, .string ⟨#[]⟩, .int .i32 0, .int .i32 0, .int .i64 0, .int .i64 0]), 8, 88) := by kernel_rfl
theorem Try.info43 : (Try.prog.info? 43).map (fun i => (i.zero, i.size, i.bytes)) = some (some (.slice none 0 0), 1, 24) := by kernel_rfl
theorem Try.info39 : (Try.prog.info? 39).map (fun i => (i.zero, i.size, i.bytes)) = some (some (.agg #[.int .i32 0, .bool false, .string ⟨#[]⟩, .string ⟨#[]⟩, .string ⟨#[]⟩, .string ⟨#[]⟩, .string ⟨#[]⟩, .string ⟨#[]⟩, .string ⟨#[]⟩, .int .i32 0, .int .i32 0, .int .i64 0, .int .i64 0]), 13, 144) := by kernel_rfl

theorem hp_one (p : Part) : ∀ u ∈ hpCells p, u.oneCell' = true := by
  intro u hu; simp [hpCells] at hu
  rcases hu with rfl | rfl | rfl | rfl | rfl | rfl | rfl | rfl <;> rfl
theorem dp_one (p : Part) : ∀ u ∈ dpCells p, u.oneCell' = true := by
  intro u hu; simp [dpCells] at hu
  rcases hu with rfl | rfl | rfl | rfl | rfl | rfl | rfl | rfl | rfl | rfl | rfl | rfl <;> rfl

/-- 'grownBy' behind an alloc. -/
theorem grown_of_alloc {w w' : World} {o : Obj} {row : Option Nat} (h : (w.alloc o).grownBy w' row) : w.grownBy w' row :=
  ⟨h.os, h.tape, h.output, by have := h.size; simp at this; omega, fun k hk hr => (h.block k (by simp; omega) hr).trans (Below.heap_alloc w o k hk)⟩

set_option maxRecDepth 100000 in
set_option maxHeartbeats 1000000 in
theorem appendPart_any (B : Nat) (v : Value) (n : Nat) (xs : List Value) (p : Part) (w : World) (hown : w.ownsRow B 70 8 v n xs) (hn : n ≤ 65536) (hB : B ≤ w.heap.size) :
    Calls Try.prog 13 #[v, .string p.id, .string p.acc, .string p.cls, .string p.outl, .int .i32 p.due, .int .i32 p.traded, .int .i64 p.shares] w fun e w' =>
      ∃ g cap, e = .returned (.slice (some ⟨g, 0, none⟩) (n + 1) cap) ∧ w'.ownsRow B 70 8 (.slice (some ⟨g, 0, none⟩) (n + 1) cap) (n + 1) (xs ++ hpCells p) ∧
        w.grownBy w' v.ownBlock ∧ (v.ownBlock = some g ∨ w.heap.size ≤ g) ∧ g < w'.heap.size := by
  obtain ⟨i0, hi, hz0, hz1, hz2⟩ := info_parts Try.info70
  go_enter Try.func13, Try.ntmps13
  go_wp2_with (at_builtin; refine wpList_append_lies _ rfl _ _ 43 rfl B 70 i0 _ 8 88 Try.underlying43 hi hz0 hz1 hz2 rfl (by decide) v n xs rfl (hown.alloc _) ⟨w.heap.size, 0, none⟩ 1 1 (hpCells p) rfl rfl (World.news_of_block (heap_alloc_new w _)) (hp_one p) (by decide) (by unfold maxLen; omega) (by omega) (by simp; omega) (w.heap.size + 1) (by simp) ?_)
  intro g cap w' h1 h2 h3 h4
  clear hi hz0 hz1 hz2
  go_wp2
  go_ret
  exact ⟨g, cap, rfl, h1, grown_of_alloc h2, (by rcases h3 with h | h; exact .inl h; exact .inr (by omega)), h4⟩

set_option maxRecDepth 100000 in
set_option maxHeartbeats 1000000 in
theorem appendChunk_any (B : Nat) (v : Value) (n : Nat) (xs : List Value) (a : Option Addr) (l c : Nat) (w : World) (hown : w.ownsRow B 43 1 v n xs) (hn : n ≤ 65536) (hB : B ≤ w.heap.size) :
    Calls Try.prog 14 #[v, .slice a l c] w fun e w' =>
      ∃ g cap, e = .returned (.slice (some ⟨g, 0, none⟩) (n + 1) cap) ∧ w'.ownsRow B 43 1 (.slice (some ⟨g, 0, none⟩) (n + 1) cap) (n + 1) (xs ++ [.slice a l c]) ∧
        w.grownBy w' v.ownBlock ∧ (v.ownBlock = some g ∨ w.heap.size ≤ g) ∧ g < w'.heap.size := by
  obtain ⟨i0, hi, hz0, hz1, hz2⟩ := info_parts Try.info43
  go_enter Try.func14, Try.ntmps14
  go_wp2_with (at_builtin; refine wpList_append_lies _ rfl _ _ 41 rfl B 43 i0 _ 1 24 Try.underlying41 hi hz0 hz1 hz2 rfl (by decide) v n xs rfl (hown.alloc _) ⟨w.heap.size, 0, none⟩ 1 1 [.slice a l c] rfl rfl (World.news_of_block (heap_alloc_new w _)) (by intro u hu; simp at hu; subst hu; rfl) (by decide) (by unfold maxLen; omega) (by omega) (by simp; omega) (w.heap.size + 1) (by simp) ?_)
  intro g cap w' h1 h2 h3 h4
  clear hi hz0 hz1 hz2
  go_wp2
  go_ret
  exact ⟨g, cap, rfl, h1, grown_of_alloc h2, (by rcases h3 with h | h; exact .inl h; exact .inr (by omega)), h4⟩

set_option maxRecDepth 100000 in
theorem register_any (a : Option Addr) (l c : Nat) (n : Int) (w : World) :
    Calls Try.prog 15 #[.slice a l c, .int .i64 n] w fun e w' => e = .returned (.pointer (some ⟨w.heap.size, 0, none⟩)) ∧
      ∃ cs : Array Value, w' = w.alloc (.cells cs 67) ∧ cs[12]? = some (.slice a l c) ∧ cs[13]? = some (.int .i64 0) ∧ cs[14]? = some (.int .i64 n) := by
  go_enter Try.func15, Try.ntmps15
  go_wp2
  go_ret
  exact ⟨rfl, _, rfl, rfl, rfl, rfl⟩

theorem len_any (R : Nat) (n : Int) (w : World) (h : w.cell? ⟨R, 14, none⟩ = some (.int .i64 n)) :
    Calls Try.prog 16 #[.pointer (some ⟨R, 12, none⟩)] w fun e w' => e = .returned (.int .i64 n) ∧ w' = w := by
  go_enter Try.func16, Try.ntmps16
  go_wp2
  go_ret
  exact ⟨rfl, rfl⟩

theorem at_any (R g gk m ccap len cap k : Nat) (w : World) (h0 : w.cell? ⟨R, 12, none⟩ = some (.slice (some ⟨g, 0, none⟩) m ccap)) (h1 : w.cell? ⟨R, 13, none⟩ = some (.int .i64 0))
    (hm : k / 4096 < m) (h2 : w.cell? ⟨g, k / 4096, none⟩ = some (.slice (some ⟨gk, 0, none⟩) len cap)) (hl : k % 4096 < len) (hk : k ≤ 65536) :
    Calls Try.prog 17 #[.pointer (some ⟨R, 12, none⟩), .int .i64 k] w fun e w' => e = .returned (.pointer (some ⟨gk, k % 4096 * 8, none⟩)) ∧ w' = w := by
  go_enter Try.func17, Try.ntmps17
  go_wp2
  go_ret
  exact ⟨rfl, rfl⟩

def HpAt (w : World) (g o : Nat) (p : Part) : Prop :=
  w.cell? ⟨g, o, none⟩ = some (.string p.id) ∧ w.cell? ⟨g, o + 1, none⟩ = some (.string p.acc) ∧ w.cell? ⟨g, o + 2, none⟩ = some (.string p.cls) ∧ w.cell? ⟨g, o + 3, none⟩ = some (.string p.outl) ∧
  w.cell? ⟨g, o + 4, none⟩ = some (.int .i32 p.due) ∧ w.cell? ⟨g, o + 5, none⟩ = some (.int .i32 p.traded) ∧ w.cell? ⟨g, o + 6, none⟩ = some (.int .i64 p.shares) ∧ w.cell? ⟨g, o + 7, none⟩ = some (.int .i64 2)

set_option maxRecDepth 100000 in
set_option maxHeartbeats 1000000 in
theorem redemption_any (g o : Nat) (p : Part) (w : World) (h : HpAt w g o p) :
    Calls Try.prog 18 #[.pointer (some ⟨g, o, none⟩)] w fun e w' => e = .returned (.agg (ordCells p)) ∧ Below w.heap.size w w' := by
  obtain ⟨h1, h2, h3, h4, h5, h6, h7, h8⟩ := h
  have hlt := World.block_lt_of_cell? w _ h1
  have hal : ∀ ob j, (w.alloc ob).cell? ⟨g, j, none⟩ = w.cell? ⟨g, j, none⟩ := fun ob j => World.cell?_alloc_lt _ _ _ hlt
  have hne : g ≠ w.heap.size := Nat.ne_of_lt hlt
  clear hlt
  go_enter Try.func18, Try.ntmps18
  go_wp2
  go_region
  all_goals
    go_wp2
    refine bodyPost_ret (v := .agg (ordCells p)) ?_ rfl ⟨rfl, ?_⟩
    · simp [results, Try.results18, go_sem, ordCells, redeem]
    · exact ((Below.refl _ _).alloc (Nat.le_refl _) _).drew

/-- An owned row stays owned where nothing old has turned. -/
theorem own_below {w w' : World} {B e size n : Nat} {v : Value} {xs : List Value} (h : w.ownsRow B e size v n xs) (hb : Below w.heap.size w w') : w'.ownsRow B e size v n xs :=
  h.kept (row := none) ⟨hb.os, hb.tape, hb.output, hb.size, fun k hk _ => hb.block k hk⟩ (by cases v.ownBlock <;> simp)

theorem HpAt.below {w w' : World} {B g o : Nat} {p : Part} (h : HpAt w g o p) (hb : Below B w w') (hg : g < B) : HpAt w' g o p := by
  obtain ⟨h1, h2, h3, h4, h5, h6, h7, h8⟩ := h
  exact ⟨(hb.cell hg).trans h1, (hb.cell hg).trans h2, (hb.cell hg).trans h3, (hb.cell hg).trans h4, (hb.cell hg).trans h5, (hb.cell hg).trans h6, (hb.cell hg).trans h7, (hb.cell hg).trans h8⟩

theorem HpAt.grown {w w' : World} {row : Option Nat} {g o : Nat} {p : Part} (h : HpAt w g o p) (hb : w.grownBy w' row) (hg : some g ≠ row) : HpAt w' g o p := by
  obtain ⟨h1, h2, h3, h4, h5, h6, h7, h8⟩ := h
  exact ⟨hb.cell h1 hg, hb.cell h2 hg, hb.cell h3 hg, hb.cell h4 hg, hb.cell h5 hg, hb.cell h6 hg, hb.cell h7 hg, hb.cell h8 hg⟩
theorem HpAt.alloc {w : World} {g o : Nat} {p : Part} (h : HpAt w g o p) (ob : Obj) : HpAt (w.alloc ob) g o p := h.grown (World.grownBy_alloc w ob none) (by simp)

/-- A row that is owned from B on is no block below B. -/
theorem own_ne {w : World} {B e size n g : Nat} {v : Value} {xs : List Value} (h : w.ownsRow B e size v n xs) (hg : g < B) : some g ≠ v.ownBlock := by
  intro he
  have := (h.lt g he.symm).1
  omega

/-- The register at block R lists the parts. -/
def RegOf (w : World) (R : Nat) (ps : List Part) : Prop :=
  ∃ ca m ccap, w.cell? ⟨R, 12, none⟩ = some (.slice ca m ccap) ∧ w.cell? ⟨R, 13, none⟩ = some (.int .i64 0) ∧ w.cell? ⟨R, 14, none⟩ = some (.int .i64 ps.length) ∧
    ∀ k (hk : k < ps.length), ∃ g gk len cap, ca = some ⟨g, 0, none⟩ ∧ k / 4096 < m ∧ w.cell? ⟨g, k / 4096, none⟩ = some (.slice (some ⟨gk, 0, none⟩) len cap) ∧ k % 4096 < len ∧ HpAt w gk (k % 4096 * 8) ps[k]

theorem dp_len (ps : List Part) : (ps.flatMap dpCells).length = ps.length * 13 := by
  induction ps with
  | nil => rfl
  | cons p ps ih => simp [List.flatMap_cons, ih, dpCells]; omega

theorem redemption_own (g o : Nat) (p : Part) (w : World) (h : HpAt w g o p) (B : Nat) (v : Value) (n : Nat) (xs : List Value) (hown : w.ownsRow B 39 13 v n xs) :
    Calls Try.prog 18 #[.pointer (some ⟨g, o, none⟩)] w fun e w' => e = .returned (.agg #[.int .i32 0, .bool false, .string p.id, .string p.acc, .string p.cls, .string p.outl, .string redeem, .string ⟨#[]⟩, .string ⟨#[]⟩]) ∧ Below w.heap.size w w' ∧ w'.ownsRow B 39 13 v n xs :=
  (redemption_any g o p w h).mono fun _ _ ⟨h1, h2⟩ => ⟨h1, h2, own_below hown h2⟩

set_option maxRecDepth 100000 in
set_option maxHeartbeats 2000000 in
theorem deferred_any (R : Nat) (ps : List Part) (w : World) (h : RegOf w R ps) (hn : ps.length ≤ 65537) :
    Calls Try.prog 8 #[.pointer (some ⟨R, 0, none⟩)] w fun e w' => ∃ v, e = .returned v ∧ w'.ownsRow w.heap.size 39 13 v ps.length (ps.flatMap dpCells) ∧ Below w.heap.size w w' := by
  obtain ⟨ca, m, ccap, h0, h1, h2, hk⟩ := h
  obtain ⟨i0, hi, hz0, hz1, hz2⟩ := info_parts Try.info39
  have hR := World.block_lt_of_cell? w _ h0
  go_enter Try.func8, Try.ntmps8
  go_wp2_with (go_at_call 16; refine (len_any R ps.length _ h2).mono ?_; rintro e w1 ⟨rfl, rfl⟩)
  go_loopw [3, 10] (fun v i wr => ∃ k : Nat, k ≤ ps.length ∧ i = .int .i64 k ∧ wr.ownsRow w1.heap.size 39 13 v k ((ps.take k).flatMap dpCells) ∧ Below w1.heap.size w1 wr) (fun _ i _ => ps.length - (intOf i).toNat)
  case atStart => exact ⟨0, Nat.zero_le _, rfl, World.ownsRow_nil _ _ _ _, Below.refl _ _⟩
  case round =>
    obtain ⟨k, hkn, rfl, hown, hb⟩ := hrel
    by_cases hlt : k < ps.length
    · obtain ⟨g, gk, len, cap, rfl, hkm, hg, hkl, hp⟩ := hk k hlt
      have hgl := World.block_lt_of_cell? w1 _ hg
      have hgkl := World.block_lt_of_cell? w1 _ hp.1
      have r0 := (hb.cell (p := ⟨R, 12, none⟩) hR).trans h0
      have r1 := (hb.cell (p := ⟨R, 13, none⟩) hR).trans h1
      have rg := (hb.cell (p := ⟨g, k / 4096, none⟩) hgl).trans hg
      have hp' := hp.below hb hgkl
      clear h0 h1 h2 hg hp hk
      go_wp2_with (go_at_call 17; refine (at_any R g gk m ccap len cap k _ r0 r1 hkm rg hkl (by omega)).mono ?_; rintro e w2 ⟨rfl, rfl⟩)
      obtain ⟨q, hq⟩ : ∃ q, q = ps[k] := ⟨_, rfl⟩
      rw [← hq] at hp'
      have HT : Hid ((ps.take (k + 1)).flatMap dpCells = (ps.take k).flatMap dpCells ++ dpCells q) := by
        unfold Hid; rw [hq, List.take_succ_eq_append_getElem hlt, List.flatMap_append]; simp
      have hgw : gk < w2.heap.size := World.block_lt_of_cell? w2 _ hp'.1
      have hsz := hb.size
      obtain ⟨o, ho⟩ : ∃ o, o = k % 4096 * 8 := ⟨_, rfl⟩
      rw [← ho] at hp'
      simp only [← ho]
      have HS : HpAt w2.drew gk o q := hp'
      clear r0 r1 rg hq hkl hkm ho
      go_region_held3 (fun w' => w'.cell? ⟨gk, o, none⟩ = some (.string q.id) ∧ w'.cell? ⟨gk, o + 1, none⟩ = some (.string q.acc) ∧ w'.cell? ⟨gk, o + 2, none⟩ = some (.string q.cls) ∧ w'.cell? ⟨gk, o + 3, none⟩ = some (.string q.outl) ∧
  w'.cell? ⟨gk, o + 4, none⟩ = some (.int .i32 q.due) ∧ w'.cell? ⟨gk, o + 5, none⟩ = some (.int .i32 q.traded) ∧ w'.cell? ⟨gk, o + 6, none⟩ = some (.int .i64 q.shares) ∧ w'.cell? ⟨gk, o + 7, none⟩ = some (.int .i64 2)) (first | exact HS | exact HpAt.below HS hb3 hgw | exact HpAt.alloc (HpAt.below HS hb3 hgw) _ | exact HpAt.grown (HpAt.alloc (HpAt.below HS hb3 hgw) _) hgrow4 (own_ne hown3 hgkl))
        (first
          | (go_at_call 18; refine (redemption_own gk o q _ HS _ _ _ _ hown).mono ?_; rintro e w3 ⟨rfl, hb3, hown3⟩)
          | (refine step_append_lies _ (by rfl) _ _ 28 (by rfl) w1.heap.size 39 i0 _ 13 144 Try.underlying28 hi hz0 hz1 hz2 rfl (by decide) _ _ _ (by rfl) (hown3.alloc _) ⟨w3.heap.size, 0, none⟩ 1 1 (dpCells q) (by rfl) rfl (World.news_of_block (heap_alloc_new w3 _)) (dp_one q) (by decide) (by unfold maxLen; omega) (by omega) (by have := hb3.size; simp at this; simp; omega) (w3.heap.size + 1) (by simp) ?_; intro g cap w4 hown4 hgrow4 hat4 hlt4))
      go_wp2
      go_roundw
      case rel =>
        exact ⟨k + 1, hlt, by go_num, by rw [HT.out]; exact hown4, (hb.drew.trans (hb3.mono (by simpa using hsz))).grown (grown_of_alloc hgrow4) (by have := hb3.size; simp at this; omega) (fun k e => (hown3.lt k e).1)⟩
      case measure => simp [intOf]; omega
    · go_wp2
      go_ret
      have : k = ps.length := by omega
      subst this
      exact ⟨_, rfl, by simpa using hown, hb⟩
end Go.Proofs.Qxb6614794a
