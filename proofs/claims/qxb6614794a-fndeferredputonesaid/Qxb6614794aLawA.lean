import Derived.Test.Qxb6614794aView
namespace Go.Proofs.Qxb6614794a
open Go.RowKit

def IsBool (e : Ending) (R : Bool → Prop) : Prop := ∃ r, e = .returned (.bool r) ∧ R r
def IsIntBool (e : Ending) : Prop := ∃ (t : Int) (o : Bool), e = .returned (.tuple #[.int .i64 t, .bool o])
theorem IsIntBool.mk (t : Int) (o : Bool) : IsIntBool (.returned (.tuple #[.int .i64 t, .bool o])) := ⟨t, o, rfl⟩

set_option maxRecDepth 100000 in
set_option maxHeartbeats 1000000 in
theorem partBytes_any (t : Int) (p : Part) (w : World) :
    Calls Try.prog 6 #[.int .i64 t, .agg #[.string p.id, .string p.acc, .string p.cls, .string p.outl, .int .i32 p.due, .int .i32 p.traded, .int .i64 p.shares]] w fun e w' => IsIntBool e ∧ Below w.heap.size w w' := by
  go_enter Try.func6, Try.ntmps6
  go_wp2
  all_goals
    go_ret2
    exact ⟨IsIntBool.mk _ _, (Below.refl _ _).alloc (Nat.le_refl _) _⟩

/-- The strings' lengths that the first guard has held. -/
def Small (ps : List Part) (k : Nat) : Prop := ∀ j (hj : j < ps.length), j < k → ps[j].id.size ≤ 1048576
theorem Small.zero (ps : List Part) : Small ps 0 := fun j _ h => by omega
theorem Small.succ {ps : List Part} {k : Nat} (h : Small ps k) (hk : k < ps.length) (hs : ps[k].id.size ≤ 1048576) : Small ps (k + 1) := fun j hj h' => by
  by_cases e : j = k
  · subst e; exact hs
  · exact h j hj (by omega)

theorem IsBool.no {R : Bool → Prop} (h : R false) : IsBool (.returned (.bool false)) R := ⟨false, rfl, h⟩

set_option maxRecDepth 100000 in
set_option maxHeartbeats 2000000 in
theorem bytes5_any (ao : Option Addr) (cap : Nat) (cut : Int) (ps : List Part) (w : World) (hcap : ps.length ≤ maxLen) (h : PartsAt w ao ps) :
    Calls Try.prog 5 #[.slice ao ps.length cap, .int .i64 cut] w fun e w' => IsBool e (fun r => r = true → Small ps ps.length) ∧ w' = w := by
  unfold maxLen at hcap
  go_enter Try.func5, Try.ntmps5
  go_wp2
  · go_ret
    exact ⟨IsBool.no (by simp), rfl⟩
  go_loop [5, 6] (fun z i => ∃ (k : Nat) (zz : Int), k ≤ ps.length ∧ i = .int .i64 k ∧ z = .int .i64 zz ∧ Small ps k) (fun _ i => ps.length - (intOf i).toNat)
  case atStart => exact ⟨0, _, Nat.zero_le _, rfl, rfl, Small.zero _⟩
  case round =>
    obtain ⟨k, zz, hk, rfl, rfl, hsm⟩ := hrel
    have HSM : Hid (Small ps k) := hsm
    clear hsm
    by_cases hlt : k < ps.length
    · obtain ⟨b, off, rfl, h1, h2, h3, h4, _, _, _⟩ := h k hlt
      clear h
      go_wp2
      all_goals try (go_ret; exact ⟨IsBool.no (by simp), rfl⟩)
      go_round
      case rel =>
        have hs : ((ps[k].id.size : Nat) : Int) ≤ 1048576 := by assumption
        exact ⟨k + 1, _, hlt, by go_num, rfl, HSM.out.succ hlt (by omega)⟩
      case measure => simp [intOf]; omega
    · go_wp2
      go_ret
      have e : k = ps.length := by omega
      exact ⟨⟨true, rfl, fun _ => e ▸ HSM.out⟩, rfl⟩

/-! ### The law: the guards -/
theorem PartsAt.take {w : World} {ao : Option Addr} {ps : List Part} (h : PartsAt w ao ps) (n : Nat) : PartsAt w ao (ps.take n) := by
  intro k hk
  have hk' : k < ps.length := by simp at hk; omega
  obtain ⟨b, off, h1, h2⟩ := h k hk'
  exact ⟨b, off, h1, by rw [List.getElem_take]; exact h2⟩

/-- The tail of a slice: 'parts[c:]'. -/
theorem PartsAt.drop {w : World} {ao : Option Addr} {ps : List Part} (h : PartsAt w ao ps) (c cap : Nat) (hcap : ps.length ≤ cap) : PartsAt w (if cap = c then ao else ao.map (·.add (c * 7))) (ps.drop c) := by
  intro k hk
  have hk' : c + k < ps.length := by simp at hk; omega
  obtain ⟨b, off, h1, h2⟩ := h (c + k) hk'
  subst h1
  refine ⟨b, off + c * 7, ?_, ?_⟩
  · rw [if_neg (by omega)]; simp [Addr.add_lit]
  · rw [List.getElem_drop]
    rw [show off + c * 7 + k * 7 = off + (c + k) * 7 by omega]
    exact h2


/-- Thirteen cells of one deferred part as it is listed. -/
def DpAt (w : World) (g o : Nat) (p : Part) : Prop :=
  w.cell? ⟨g, o, none⟩ = some (.int .i32 0) ∧ w.cell? ⟨g, o + 1, none⟩ = some (.bool false) ∧ w.cell? ⟨g, o + 2, none⟩ = some (.string p.id) ∧ w.cell? ⟨g, o + 3, none⟩ = some (.string p.acc) ∧ w.cell? ⟨g, o + 4, none⟩ = some (.string p.cls) ∧ w.cell? ⟨g, o + 5, none⟩ = some (.string p.outl) ∧ w.cell? ⟨g, o + 6, none⟩ = some (.string redeem) ∧ w.cell? ⟨g, o + 7, none⟩ = some (.string ⟨#[]⟩) ∧ w.cell? ⟨g, o + 8, none⟩ = some (.string ⟨#[]⟩) ∧ w.cell? ⟨g, o + 9, none⟩ = some (.int .i32 p.due) ∧ w.cell? ⟨g, o + 10, none⟩ = some (.int .i32 p.traded) ∧ w.cell? ⟨g, o + 11, none⟩ = some (.int .i64 p.shares) ∧ w.cell? ⟨g, o + 12, none⟩ = some (.int .i64 2)
theorem DpAt.below {w w' : World} {B g o : Nat} {p : Part} (h : DpAt w g o p) (hb : Below B w w') (hg : g < B) : DpAt w' g o p := by
  obtain ⟨h0, h1, h2, h3, h4, h5, h6, h7, h8, h9, h10, h11, h12⟩ := h
  exact ⟨(hb.cell hg).trans h0, (hb.cell hg).trans h1, (hb.cell hg).trans h2, (hb.cell hg).trans h3, (hb.cell hg).trans h4, (hb.cell hg).trans h5, (hb.cell hg).trans h6, (hb.cell hg).trans h7, (hb.cell hg).trans h8, (hb.cell hg).trans h9, (hb.cell hg).trans h10, (hb.cell hg).trans h11, (hb.cell hg).trans h12⟩
theorem DpAt.lt {w : World} {g o : Nat} {p : Part} (h : DpAt w g o p) : g < w.heap.size := World.block_lt_of_cell? w _ h.1

theorem own_dp {w : World} {B j : Nat} {hv : Value} {l : List Part} (h : w.ownsRow B 39 13 hv j (l.flatMap dpCells)) {g : Nat} (hg : hv.ownBlock = some g) (r : Nat) (hr : r < l.length) : DpAt w g (r * 13) l[r] := by
  have key : ∀ c (hc : c < 13) u, (dpCells l[r])[c]? = some u → w.cell? ⟨g, r * 13 + c, none⟩ = some u := by
    intro c hc u hu
    have := h.cells hg (r * 13 + c) u (by rw [flat_at dpCells 13 dp_len1 l r c hr hc]; exact hu)
    rwa [Addr.add_lit, Nat.zero_add] at this
  exact ⟨key 0 (by decide) _ rfl, key 1 (by decide) _ rfl, key 2 (by decide) _ rfl, key 3 (by decide) _ rfl, key 4 (by decide) _ rfl, key 5 (by decide) _ rfl, key 6 (by decide) _ rfl, key 7 (by decide) _ rfl, key 8 (by decide) _ rfl, key 9 (by decide) _ rfl, key 10 (by decide) _ rfl, key 11 (by decide) _ rfl, key 12 (by decide) _ rfl⟩

/-- A list of deferred parts in memory: the slice's address a, of as many parts. -/
def DpsAt (w : World) (a : Option Addr) (l : List Part) : Prop := ∀ k (hk : k < l.length), ∃ g, a = some ⟨g, 0, none⟩ ∧ DpAt w g (k * 13) l[k]
theorem DpsAt.below {w w' : World} {a : Option Addr} {l : List Part} (h : DpsAt w a l) (hb : Below w.heap.size w w') : DpsAt w' a l := fun k hk =>
  let ⟨g, h1, h2⟩ := h k hk
  ⟨g, h1, h2.below hb h2.lt⟩
theorem own_dps {w : World} {B : Nat} {v : Value} {l : List Part} (h : w.ownsRow B 39 13 v l.length (l.flatMap dpCells)) : ∃ a c, v = .slice a l.length c ∧ DpsAt w a l := by
  rcases h.2 with ⟨h1, h2⟩ | ⟨g, cap, cur, h1, _⟩
  · refine ⟨none, 0, by rw [h1, h2], fun k hk => by omega⟩
  · exact ⟨_, cap, h1, fun k hk => ⟨g, rfl, own_dp h (by rw [h1]; rfl) k hk⟩⟩

theorem deferred_dps (R : Nat) (ps : List Part) (w : World) (h : RegOf w R ps) (hn : ps.length ≤ 65537) :
    Calls Try.prog 8 #[.pointer (some ⟨R, 0, none⟩)] w fun e w' => ∃ a c, e = .returned (.slice a ps.length c) ∧ DpsAt w' a ps ∧ Below w.heap.size w w' :=
  (deferred_any R ps w h hn).mono fun e w' ⟨v, h1, h2, h3⟩ => by
    obtain ⟨a, c, rfl, h4⟩ := own_dps h2
    exact ⟨a, c, h1, h4, h3⟩

theorem build_len (ao : Option Addr) (cap n : Nat) (ps : List Part) (hl : ps.length = n) (w : World) (h : PartsAt w ao ps) (hn : n ≤ 65537) :
    Calls Try.prog 7 #[.slice ao n cap] w fun e w' => ∃ R, e = .returned (.pointer (some ⟨R, 0, none⟩)) ∧ RegOf w' R ps ∧ Below w.heap.size w w' := by
  subst hl; exact build_any ao cap ps w h hn

theorem flat20 {w' : World} {g1 o1 b o2 : Nat} {p : Part} (h1 : DpAt w' g1 o1 p) (h2 : PartAt w' b o2 p) : w'.cell? ⟨g1, o1, none⟩ = some (.int .i32 0) ∧ w'.cell? ⟨g1, o1 + 1, none⟩ = some (.bool false) ∧ w'.cell? ⟨g1, o1 + 2, none⟩ = some (.string p.id) ∧ w'.cell? ⟨g1, o1 + 3, none⟩ = some (.string p.acc) ∧ w'.cell? ⟨g1, o1 + 4, none⟩ = some (.string p.cls) ∧ w'.cell? ⟨g1, o1 + 5, none⟩ = some (.string p.outl) ∧ w'.cell? ⟨g1, o1 + 6, none⟩ = some (.string redeem) ∧ w'.cell? ⟨g1, o1 + 7, none⟩ = some (.string ⟨#[]⟩) ∧ w'.cell? ⟨g1, o1 + 8, none⟩ = some (.string ⟨#[]⟩) ∧ w'.cell? ⟨g1, o1 + 9, none⟩ = some (.int .i32 p.due) ∧ w'.cell? ⟨g1, o1 + 10, none⟩ = some (.int .i32 p.traded) ∧ w'.cell? ⟨g1, o1 + 11, none⟩ = some (.int .i64 p.shares) ∧ w'.cell? ⟨g1, o1 + 12, none⟩ = some (.int .i64 2) ∧ w'.cell? ⟨b, o2, none⟩ = some (.string p.id) ∧ w'.cell? ⟨b, o2 + 1, none⟩ = some (.string p.acc) ∧ w'.cell? ⟨b, o2 + 2, none⟩ = some (.string p.cls) ∧ w'.cell? ⟨b, o2 + 3, none⟩ = some (.string p.outl) ∧ w'.cell? ⟨b, o2 + 4, none⟩ = some (.int .i32 p.due) ∧ w'.cell? ⟨b, o2 + 5, none⟩ = some (.int .i32 p.traded) ∧ w'.cell? ⟨b, o2 + 6, none⟩ = some (.int .i64 p.shares) := by
  obtain ⟨a0, a1, a2, a3, a4, a5, a6, a7, a8, a9, a10, a11, a12⟩ := h1
  obtain ⟨b0, b1, b2, b3, b4, b5, b6⟩ := h2
  exact ⟨a0, a1, a2, a3, a4, a5, a6, a7, a8, a9, a10, a11, a12, b0, b1, b2, b3, b4, b5, b6⟩

theorem drop_at (ps : List Part) (c k : Nat) (hc : c ≤ k) (hk : k < ps.length) : (ps.drop c)[k - c]'(by simp; omega) = ps[k] := by
  rw [List.getElem_drop]
  congr 1
  omega
theorem below_drewN {B : Nat} {a w : World} (h : Below B a w) (n : Nat) : Below B a (w.drewN n) := ⟨h.os, h.tape, h.output, h.size, h.block⟩

theorem eq39lit (p : Part) (w : World) : (Op.equalIn 10000 39 (.agg #[.int .i32 0, .bool false, .string p.id, .string p.acc, .string p.cls, .string p.outl, .string redeem, .string ⟨#[]⟩, .string ⟨#[]⟩, .int .i32 p.due, .int .i32 p.traded, .int .i64 p.shares, .int .i64 2]) (.agg #[.int .i32 0, .bool false, .string p.id, .string p.acc, .string p.cls, .string p.outl, .string redeem, .string ⟨#[]⟩, .string ⟨#[]⟩, .int .i32 p.due, .int .i32 p.traded, .int .i64 p.shares, .int .i64 2])).run Try.prog w = .ok true w := eq39 p 9997 w

set_option maxRecDepth 100000 in
set_option maxHeartbeats 4000000 in
theorem law3 (ao : Option Addr) (cap : Nat) (cut : Int) (ps : List Part) (w : World) (hcap : ps.length ≤ cap) (hcm : cap ≤ maxLen) (h : PartsAt w ao ps) :
    Calls Try.prog 3 #[.slice ao ps.length cap, .int .i64 cut] w fun e w' => e = .returned (.bool true) ∧ Below w.heap.size w w' := by
  unfold maxLen at hcm
  go_enter Try.func3, Try.ntmps3
  go_wp2_with fail
  refine (bytes5_any ao cap cut ps w (by unfold maxLen; omega) h).mono ?_
  rintro e w' ⟨⟨r, rfl, -⟩, rfl⟩
  cases r with
  | false =>
    go_wp2
    go_ret
    exact ⟨rfl, Below.refl _ _⟩
  | true =>
  by_cases hlen : (65536 : Int) < (ps.length : Int)
  · go_wp2
    go_ret
    exact ⟨rfl, Below.refl _ _⟩
  rename World => w
  go_wp2_with fail
  go_loopw [5, 6, 7] (fun t o i wr => ∃ (k : Nat) (tt : Int) (oo : Bool), k ≤ ps.length ∧ i = .int .i64 k ∧ t = .int .i64 tt ∧ o = .bool oo ∧ Below w.heap.size w wr) (fun _ _ i _ => ps.length - (intOf i).toNat)
  case atStart => exact ⟨0, 0, false, Nat.zero_le _, rfl, rfl, rfl, Below.refl _ _⟩
  case round =>
    obtain ⟨k, tt, oo, hk, rfl, rfl, rfl, hb⟩ := hrel
    by_cases hlt : k < ps.length
    · obtain ⟨b, off, rfl, hp⟩ := h k hlt
      obtain ⟨p1, p2, p3, p4, p5, p6, p7⟩ := hp.below hb (World.block_lt_of_cell? w _ hp.1)
      clear h hp
      go_wp2_with fail
      refine (partBytes_any tt ps[k] _).mono ?_
      rintro e w1 ⟨⟨t1, o1, rfl⟩, hb1⟩
      have hb2 := hb.trans (hb1.mono hb.size)
      clear p1 p2 p3 p4 p5 p6 p7 hb hb1
      cases o1 with
      | true =>
        go_wp2
        go_ret
        exact ⟨rfl, hb2⟩
      | false =>
        go_wp2
        go_roundw
        case rel => exact ⟨k + 1, _, _, hlt, by go_num, rfl, rfl, hb2⟩
        case measure => simp [intOf]; omega
    · have hkn : k = ps.length := by omega
      have HK : Hid (k = ps.length) := hkn
      clear hkn
      by_cases hc0 : cut < 0
      · go_wp2
        go_ret
        exact ⟨rfl, hb⟩
      by_cases hc1 : (ps.length : Int) < cut
      · go_wp2
        go_ret
        exact ⟨rfl, hb⟩
      obtain ⟨c, rfl⟩ := Int.eq_ofNat_of_zero_le (by omega : 0 ≤ cut)
      have hcn : c ≤ ps.length := by omega
      clear hc0 hc1
      go_wp2_with fail
      go_loop [8] (fun i => ∃ (k : Nat), k ≤ ps.length ∧ i = .int .i64 k) (fun i => ps.length - (intOf i).toNat)
      case atStart => exact ⟨0, Nat.zero_le _, rfl⟩
      case round =>
        obtain ⟨k2, hk2, rfl⟩ := hrel
        by_cases hlt2 : k2 < ps.length
        · obtain ⟨b, off, rfl, hp⟩ := h k2 hlt2
          obtain ⟨-, -, -, -, -, -, p7⟩ := hp.below hb (World.block_lt_of_cell? w _ hp.1)
          clear h hp
          by_cases hneg : ps[k2].shares < 0
          · go_wp2
            go_ret
            exact ⟨rfl, hb⟩
          · go_wp2
            go_round
            case rel => exact ⟨k2 + 1, hlt2, by go_num⟩
            case measure => simp [intOf]; omega
        · clear hlt hk
          have hP := h.below hb
          clear h
          go_wp2_with fail
          refine (build_any ao cap ps _ hP (by omega)).mono ?_
          rintro e w1 ⟨R1, rfl, hR1, hb1⟩
          clear hlt2 hk2
          have hB1 := hb.trans (hb1.mono hb.size)
          replace hP := hP.below hb1
          clear hb hb1
          go_wp2_with fail
          refine (deferred_dps R1 ps _ hR1 (by omega)).mono ?_
          rintro e w2 ⟨a1, c1, rfl, hv1, hb2⟩
          have hB2 := hB1.trans (hb2.mono hB1.size)
          replace hP := hP.below hb2
          clear hB1 hb2 hR1
          have hlt : (ps.take c).length = c := by simp; omega
          have hld : (ps.drop c).length = ps.length - c := by simp
          have HT : Hid ((ps.take c).length = c) := hlt
          have HD : Hid ((ps.drop c).length = ps.length - c) := hld
          clear hlt hld
          go_wp2_with fail
          refine (build_len ao cap c (ps.take c) HT.out _ (hP.take c) (by omega)).mono ?_
          rintro e w3 ⟨R3, rfl, hR3, hb3⟩
          have hB3 := hB2.trans (hb3.mono hB2.size)
          replace hP := hP.below hb3
          replace hv1 := hv1.below hb3
          clear hB2 hb3
          go_wp2_with fail
          refine (deferred_dps R3 (ps.take c) _ hR3 (by simp; omega)).mono ?_
          rintro e w4 ⟨a2, c2, rfl, hv2, hb4⟩
          rw [HT.out]
          have hB4 := hB3.trans (hb4.mono hB3.size)
          replace hP := hP.below hb4
          replace hv1 := hv1.below hb4
          clear hB3 hb4 hR3
          have hPd := hP.drop c cap hcap
          have hcc : cap = c ∨ ¬ cap = c := by omega
          rcases hcc with hcc | hcc
          case' inl =>
            rw [if_pos hcc] at hPd
            go_wp2_with fail
            refine (build_len ao 0 (ps.length - c) (ps.drop c) HD.out _ hPd (by omega)).mono ?_
          case' inr =>
            rw [if_neg hcc] at hPd
            go_wp2_with fail
            refine (build_len (ao.map (·.add (c * 7))) (cap - c) (ps.length - c) (ps.drop c) HD.out _ hPd (by omega)).mono ?_
          all_goals
            rintro e w5 ⟨R5, rfl, hR5, hb5⟩
            clear hcc
            have hB5 := hB4.trans (hb5.mono hB4.size)
            replace hP := hP.below hb5
            replace hv1 := hv1.below hb5
            replace hv2 := hv2.below hb5
            clear hB4 hb5 hPd
            try generalize Option.map (fun x => x.add (c * 7)) ao = aod
            go_wp2_with fail
            refine (deferred_dps R5 (ps.drop c) _ hR5 (by simp; omega)).mono ?_
            rintro e w6 ⟨a3, c3, rfl, hv3, hb6⟩
            rw [HD.out]
            have hB6 := hB5.trans (hb6.mono hB5.size)
            replace hP := hP.below hb6
            replace hv1 := hv1.below hb6
            replace hv2 := hv2.below hb6
            clear hB5 hb6 hR5
            have e1 : ((ps.length : Int) != (ps.length : Int)) = false := by simp
            have e2 : ((c : Int) != (c : Int)) = false := by simp
            have e3 : (((ps.length - c : Nat) : Int) != (ps.length : Int) - (c : Int)) = false := by
              rw [Int.natCast_sub hcn]; simp
            go_wp2_with fail
            clear e1 e2 e3
            go_loopw [12] (fun i wr => ∃ k : Nat, k ≤ ps.length ∧ i = .int .i64 k ∧ Below w6.heap.size w6 wr) (fun i _ => ps.length - (intOf i).toNat)
            case atStart => exact ⟨0, Nat.zero_le _, rfl, Below.refl _ _⟩
            case round =>
              obtain ⟨k, hk, rfl, hbr⟩ := hrel
              by_cases hlt : k < ps.length
              · obtain ⟨b, off, rfl, hp⟩ := hP k hlt
                obtain ⟨g1, rfl, hd1⟩ := hv1 k hlt
                have hbl := World.block_lt_of_cell? w6 _ hp.1
                have hgl := hd1.lt
                have hp' := hp.below hbr hbl
                have hd1' := hd1.below hbr hgl
                obtain ⟨p, hpk⟩ : ∃ p, p = ps[k] := ⟨_, rfl⟩
                rw [← hpk] at hp' hd1'
                have HP : Hid (p = ps[k]) := hpk
                have HH2 : Hid (∀ k (hk : k < (ps.take c).length), ∃ g, a2 = some ⟨g, 0, none⟩ ∧ DpAt w6 g (k * 13) (ps.take c)[k]) := hv2
                have HH3 : Hid (∀ k (hk : k < (ps.drop c).length), ∃ g, a3 = some ⟨g, 0, none⟩ ∧ DpAt w6 g (k * 13) (ps.drop c)[k]) := hv3
                clear hpk hp hd1 hP hv1 hv2 hv3
                have kI : (k : Int) < (ps.length : Int) := by omega
                have kJ : (0 : Int) ≤ (k : Int) := by omega
                have HC : DpAt wr.drew g1 (k * 13) p ∧ PartAt wr.drew b (off + k * 7) p := ⟨hd1', hp'⟩
                have hs6 : w6.heap.size ≤ wr.heap.size := hbr.size
                have hg1r : g1 < wr.drew.heap.size := Nat.lt_of_lt_of_le hgl hs6
                have hbrr : b < wr.drew.heap.size := Nat.lt_of_lt_of_le hbl hs6
                clear hd1' hp'
                go_wp2_with fail
                go_region_held3 (fun w' => w'.cell? ⟨g1, k * 13, none⟩ = some (.int .i32 0) ∧ w'.cell? ⟨g1, k * 13 + 1, none⟩ = some (.bool false) ∧ w'.cell? ⟨g1, k * 13 + 2, none⟩ = some (.string p.id) ∧ w'.cell? ⟨g1, k * 13 + 3, none⟩ = some (.string p.acc) ∧ w'.cell? ⟨g1, k * 13 + 4, none⟩ = some (.string p.cls) ∧ w'.cell? ⟨g1, k * 13 + 5, none⟩ = some (.string p.outl) ∧ w'.cell? ⟨g1, k * 13 + 6, none⟩ = some (.string redeem) ∧ w'.cell? ⟨g1, k * 13 + 7, none⟩ = some (.string ⟨#[]⟩) ∧ w'.cell? ⟨g1, k * 13 + 8, none⟩ = some (.string ⟨#[]⟩) ∧ w'.cell? ⟨g1, k * 13 + 9, none⟩ = some (.int .i32 p.due) ∧ w'.cell? ⟨g1, k * 13 + 10, none⟩ = some (.int .i32 p.traded) ∧ w'.cell? ⟨g1, k * 13 + 11, none⟩ = some (.int .i64 p.shares) ∧ w'.cell? ⟨g1, k * 13 + 12, none⟩ = some (.int .i64 2) ∧ w'.cell? ⟨b, off + k * 7, none⟩ = some (.string p.id) ∧ w'.cell? ⟨b, off + k * 7 + 1, none⟩ = some (.string p.acc) ∧ w'.cell? ⟨b, off + k * 7 + 2, none⟩ = some (.string p.cls) ∧ w'.cell? ⟨b, off + k * 7 + 3, none⟩ = some (.string p.outl) ∧ w'.cell? ⟨b, off + k * 7 + 4, none⟩ = some (.int .i32 p.due) ∧ w'.cell? ⟨b, off + k * 7 + 5, none⟩ = some (.int .i32 p.traded) ∧ w'.cell? ⟨b, off + k * 7 + 6, none⟩ = some (.int .i64 p.shares)) (first | exact flat20 HC.1 HC.2 | exact flat20 (HC.1.below hb7 hg1r) (HC.2.below hb7 hbrr))
                  (first
                    | (go_at_call 9; refine (sameView_any p _).mono ?_; rintro e w7 ⟨rfl, hb7⟩))
                have hb8 : Below w6.heap.size w6 w7 := hbr.drew.trans (hb7.mono hs6)
                have q39 := eq39lit p
                have g39 : Try.prog.eqGuardType Try.prog.depth 39 = false := by kernel_rfl
                by_cases hkc : k < c
                · have kc : (k : Int) < (c : Int) := by omega
                  obtain ⟨g2, rfl, hd2⟩ := HH2.out k (by simp; omega)
                  rw [List.getElem_take] at hd2
                  have hd2' : DpAt w7 g2 (k * 13) p := by
                    rw [HP.out]
                    exact (hd2.below hbr.drew hd2.lt).below hb7 (Nat.lt_of_lt_of_le hd2.lt hs6)
                  obtain ⟨d0, d1, d2, d3, d4, d5, d6, d7, d8, d9, d10, d11, d12⟩ := hd2'
                  clear hd2 HH2 HH3 HC hb7
                  go_wp2_with fail
                  go_quiet (fail)
                  go_wp2
                  go_roundw
                  case rel => exact ⟨k + 1, hlt, by go_num, below_drewN hb8 _⟩
                  case measure => simp [intOf]; omega
                · have kc : (c : Int) ≤ (k : Int) := by omega
                  obtain ⟨g2, rfl, hd2⟩ := HH3.out (k - c) (by simp; omega)
                  rw [drop_at ps c k (by omega) hlt] at hd2
                  have hd2' : DpAt w7 g2 ((k - c) * 13) p := by
                    rw [HP.out]
                    exact (hd2.below hbr.drew hd2.lt).below hb7 (Nat.lt_of_lt_of_le hd2.lt hs6)
                  obtain ⟨d0, d1, d2, d3, d4, d5, d6, d7, d8, d9, d10, d11, d12⟩ := hd2'
                  clear hd2 HH2 HH3 HC hb7
                  go_wp2_with fail
                  go_quiet (fail)
                  go_wp2
                  go_roundw
                  case rel => exact ⟨k + 1, hlt, by go_num, below_drewN hb8 _⟩
                  case measure => simp [intOf]; omega
              · go_wp2
                go_ret
                exact ⟨rfl, hB6.trans (hbr.mono hB6.size)⟩
end Go.Proofs.Qxb6614794a
