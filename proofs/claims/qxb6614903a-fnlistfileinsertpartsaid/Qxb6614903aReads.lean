import Derived.Test.Qxb6614903aText
namespace Go.Proofs.Qxb6614903a
open Go.RowKit

theorem below_drewN {B : Nat} {a w : World} (h : Below B a w) (n : Nat) : Below B a (w.drewN n) := ⟨h.os, h.tape, h.output, h.size, h.block⟩
theorem neqPtr (a : Addr) (w : World) : (binOp .neq 33 (.pointer (some a)) (.pointer (some a))).run Try.prog w = .ok (.bool false) w := by
  obtain ⟨i, hi, -, -, -⟩ := info_parts Try.info5
  have h : ∀ d : Nat, (Op.equalIn (d + 1) 33 (.pointer (some a)) (.pointer (some a))).run Try.prog w = .ok true w := fun d => by
    simp [Op.equalIn, run_underlying Try.underlying33, sizeOf, typeInfo, hi, run_sameAddr_same]
  simp only [binOp]
  simp [Op.equal, Op.maxDepth, h 9999]

set_option maxRecDepth 100000 in
set_option maxHeartbeats 4000000 in
theorem reads_any (g P : Nat) (ha ao : Option Addr) (hc cap N : Nat) (hs : List Int) (ps : List (List Int)) (w : World) (hl : ps.length ≤ 2097152) (hsz : hs.length + sz ps ≤ 2097152) (hN : N = 48 + sz (hs :: ps)) (h1 : BytesAt w ha hs) (h : PartsAt w ao ps)
    (hd : BytesAt w (some ⟨g, 0, none⟩) (text (hs :: ps))) (hv : Views w P g (44 + hs.length) ps) :
    Calls Try.prog 15 #[.slice (some ⟨g, 0, none⟩) N N, .slice (some ⟨P, 0, none⟩) ps.length ps.length, .slice ha hs.length hc, .slice ao ps.length cap] w fun e w' => e = .returned (.bool true) ∧ Below w.heap.size w w' := by
  have HNE := hide hN
  have hN1 : 48 + hs.length + sz ps ≤ N := by rw [hN, sz_cons]; omega
  have hN2 : N ≤ 4194304 := by rw [hN, sz_cons]; omega
  have hN3 : N ≤ 48 + hs.length + sz ps := by rw [hN, sz_cons]; omega
  clear hN
  go_enter Try.func15, Try.ntmps15
  go_wp2_with fail
  go_loop [11, 12] (fun t i => ∃ (k n : Nat), k ≤ ps.length ∧ i = .int .i64 k ∧ t = .int .i64 n ∧ n = 48 + hs.length + tot ps k) (fun _ i => ps.length - (intOf i).toNat)
  case atStart => exact ⟨0, 48 + hs.length, Nat.zero_le _, rfl, by go_num, by rw [tot_zero]; rfl⟩
  case round =>
    obtain ⟨k, n, hk, rfl, rfl, hn⟩ := hrel
    have HN := hide hn
    have hn2 : n ≤ 48 + hs.length + sz ps := by have := tot_le ps k; omega
    clear hn
    by_cases hlt : k < ps.length
    · obtain ⟨b, off, a, c, rfl, c1, -, -, -⟩ := h k hlt
      have hpk := part_le ps k hlt
      have hlk : ps[k].length ≤ 4194304 := by omega
      clear hpk h hd hv h1
      go_wp2
      go_round
      case rel => exact ⟨k + 1, n + ps[k].length, hlt, by go_num, by go_num, by rw [tot_succ ps k hlt, unhide HN]; omega⟩
      case measure => simp [intOf]; omega
    · have e : k = ps.length := by omega
      have hn3 : n = N := by have := unhide HN; rw [e, tot_all] at this; omega
      subst hn3
      clear HN e
      go_wp2_with fail
      refine (opensWith_text g n (hs :: ps) w (unhide HNE) (by unfold maxLen; omega) hd).mono ?_
      rintro e w1 ⟨rfl, hb1⟩
      go_wp2_with fail
      refine (closesWith_text g n (hs :: ps) w1 (unhide HNE) (by unfold maxLen; omega) (hd.below hb1)).mono ?_
      rintro e w2 ⟨rfl, hb2⟩
      have hB2 : Below w.heap.size w w2 := hb1.trans (hb2.mono hb1.size)
      clear hb1 hb2
      have i1 : ¬ n = 44 := by omega
      go_wp2_with fail
      refine (sameBytes_any (some ⟨g, 44, none⟩) ha (n - 44) hc hs w2 (by unfold maxLen; omega) (head_at (hd.below hB2)) (h1.below hB2)).mono ?_
      rintro e w3 ⟨rfl, hb3⟩
      have hB3 : Below w.heap.size w w3 := hB2.trans (hb3.mono hB2.size)
      clear hb3 hB2 h1
      go_wp2_with fail
      go_loopw [13, 14] (fun t i wr => ∃ (k m : Nat), k ≤ ps.length ∧ i = .int .i64 k ∧ t = .int .i64 m ∧ m = 44 + hs.length + tot ps k ∧ Below w.heap.size w wr) (fun _ i _ => ps.length - (intOf i).toNat)
      case atStart => exact ⟨0, 44 + hs.length, Nat.zero_le _, rfl, by go_num, by rw [tot_zero]; rfl, hB3⟩
      case round =>
        clear hB3
        rename World => wr
        obtain ⟨q, m, hq, rfl, rfl, hm, hb⟩ := hrel
        have HM := hide hm
        have hm2 : m ≤ 44 + hs.length + sz ps := by have := tot_le ps q; omega
        clear hm
        by_cases hqt : q < ps.length
        · have hbd : Below w.heap.size w wr.drew := hb.drew
          obtain ⟨b, off, a, c, rfl, c1, hbs, -, -⟩ := h.below hbd q hqt
          obtain ⟨o, c2, ho⟩ := hv.below hbd q hqt
          have hvw := view_at (hd.below hbd) q hqt rfl ho
          have hpk := part_le ps q hqt
          have hlk : ps[q].length ≤ 4194304 := by omega
          have hmk : 0 < ps[q].length → m < n := by intro _; have := unhide HM; omega
          have HMK := hide hmk
          have ho2 : 0 < ps[q].length → o = m := fun hp => by rw [ho hp]; exact (unhide HM).symm
          have HO := hide ho2
          have k1 : (q : Int) < (ps.length : Int) := by omega
          have k2 : (0 : Int) ≤ (q : Int) := by omega
          clear hpk hmk ho2 h hd hv ho
          go_wp2_with fail
          go_region_held3 (fun w' => w'.cell? ⟨P, q, none⟩ = some (.slice (some ⟨g, o, none⟩) ps[q].length ps[q].length) ∧ w'.cell? ⟨b, off + q, none⟩ = some (.slice a ps[q].length c)) (first | exact ⟨c2, c1⟩ | exact ⟨cell_keep c2 hb7, cell_keep c1 hb7⟩)
            (first
              | (go_at_call 16; refine (sameBytes_any _ _ _ _ ps[q] wr.drew (by unfold maxLen; omega) hvw hbs).mono ?_; rintro e w7 ⟨rfl, hb7⟩))
          have hb8 : Below w.heap.size w w7 := hbd.trans (hb7.mono hbd.size)
          have d1 := cell_keep c1 hb7
          have d2 := cell_keep c2 hb7
          have np := neqPtr
          clear c1 c2 hvw hbs hb hbd hb7
          by_cases hp : 0 < ps[q].length
          · have hom := unhide HO hp
            subst hom
            have hmn := unhide HMK hp
            have k3 : (o : Int) < (n : Int) := by omega
            have k4 : (0 : Int) ≤ (o : Int) := by omega
            have k5 : (0 : Int) < (ps[q].length : Int) := by omega
            clear HO HMK
            go_wp2_with fail
            go_quiet (fail)
            go_wp2
            go_roundw
            case rel => exact ⟨q + 1, o + ps[q].length, hqt, by go_num, by go_num, by rw [tot_succ ps q hqt, unhide HM]; omega, below_drewN hb8 _⟩
            case measure => simp [intOf]; omega
          · clear HO HMK
            go_wp2_with fail
            go_quiet (fail)
            go_wp2
            go_roundw
            case rel => exact ⟨q + 1, m + ps[q].length, hqt, by go_num, by go_num, by rw [tot_succ ps q hqt, unhide HM]; omega, below_drewN hb8 _⟩
            case measure => simp [intOf]; omega
        · clear h hd hv
          go_wp2
          go_ret
          exact ⟨rfl, hb⟩
end Go.Proofs.Qxb6614903a
