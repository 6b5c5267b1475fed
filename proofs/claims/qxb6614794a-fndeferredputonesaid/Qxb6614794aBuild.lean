import Derived.Test.Qxb6614794aMem
namespace Go.Proofs.Qxb6614794a
open Go.RowKit

theorem ChunksOk.congr {w : World} {ps : List Part} {m : Nat} {cs : List Value} {cb hb : Option Nat} {len len' : Nat → Nat} (h : ChunksOk w ps m cs cb len hb) (he : ∀ i, i < m → len' i = len i) : ChunksOk w ps m cs cb len' hb := by
  intro i hi
  rw [he i hi]
  exact h i hi

theorem noChunks_any (w : World) : Calls Try.prog 11 #[] w fun e w' => e = .returned (.slice none 0 0) ∧ w' = w := by
  go_enter Try.func11, Try.ntmps11
  go_wp2
  go_ret
  exact ⟨rfl, rfl⟩
theorem noParts_any (w : World) : Calls Try.prog 12 #[] w fun e w' => e = .returned (.slice none 0 0) ∧ w' = w := by
  go_enter Try.func12, Try.ntmps12
  go_wp2
  go_ret
  exact ⟨rfl, rfl⟩

set_option maxRecDepth 100000 in
set_option maxHeartbeats 2000000 in
theorem build_any (ao : Option Addr) (cap : Nat) (ps : List Part) (w : World) (h : PartsAt w ao ps) (hn : ps.length ≤ 65537) :
    Calls Try.prog 7 #[.slice ao ps.length cap] w fun e w' => ∃ R, e = .returned (.pointer (some ⟨R, 0, none⟩)) ∧ RegOf w' R ps ∧ Below w.heap.size w w' := by
  go_enter Try.func7, Try.ntmps7
  go_wp2_with (first
    | (go_at_call 11; refine (noChunks_any _).mono ?_; rintro e w' ⟨rfl, rfl⟩)
    | (go_at_call 12; refine (noParts_any _).mono ?_; rintro e w' ⟨rfl, rfl⟩))
  rename World => w
  go_loopw [3, 4, 5] (fun cv hv i wr => ∃ q j : Nat, j < 4096 ∧ q * 4096 + j ≤ ps.length ∧ i = .int .i64 (q * 4096 + j : Nat) ∧ BInv w.heap.size wr ps q j cv hv ∧ Below w.heap.size w wr) (fun _ _ i _ => ps.length - (intOf i).toNat)
  case atStart =>
    exact ⟨0, 0, by decide, by omega, rfl, ⟨⟨[], World.ownsRow_nil _ _ _ _, chunksOk_zero _ _ _ _ _⟩, by simpa using World.ownsRow_nil w w.heap.size 70 8, .inl rfl⟩, Below.refl _ _⟩
  case round =>
    obtain ⟨q, j, hj, hqj, rfl, hinv, hb⟩ := hrel
    by_cases hlt : q * 4096 + j < ps.length
    · obtain ⟨b, off, rfl, hp⟩ := h _ hlt
      have hbl := World.block_lt_of_cell? w _ hp.1
      obtain ⟨p1, p2, p3, p4, p5, p6, p7⟩ := hp.below hb hbl
      have hbr : b < wr.heap.size := World.block_lt_of_cell? wr _ p1
      have hsz := hb.size
      go_wp2_with fail
      refine (appendPart_any w.heap.size _ j _ ps[q * 4096 + j] _ (hinv.2.1.alloc _) (by omega) (by simp; omega)).mono ?_
      rintro e w2 ⟨g, cap2, rfl, hown2, hgr2, hat2, hlt2⟩
      have hinv2 := binv_grow (hinv.below ((Below.refl _ _).alloc (Nat.le_refl _) _)) hlt hown2 hgr2 hat2
      have hb2 : Below w.heap.size w w2 := (hb.alloc hsz _).grown hgr2 (by simp; omega) (fun k e => (hinv.2.1.lt k e).1)
      clear hown2 hgr2 hat2 p1 p2 p3 p4 p5 p6 p7 hp h hinv hb
      by_cases hfull : j + 1 = 4096
      · obtain ⟨⟨cs, hcv, hco⟩, hown3, hsep⟩ := hinv2
        have hj' : j = 4095 := by omega
        subst hj'
        clear hfull hj
        go_wp2_with (first
          | (go_at_call 14; refine (appendChunk_any w.heap.size _ q cs _ _ _ _ hcv (by omega) hb2.size).mono ?_; rintro e w3 ⟨g3, cap3, rfl, hcv3, hgr3, hat3, hlt3⟩)
          | (go_at_call 12; refine (noParts_any _).mono ?_; rintro e w' ⟨rfl, rfl⟩))
        go_roundw
        case rel =>
          have hinv3 := binv_push hcv hco hown3 hsep (by omega) hcv3 hgr3 hat3
          exact ⟨q + 1, 0, by decide, by omega, by go_num, hinv3, hb2.grown hgr3 hb2.size (fun k e => (hcv.lt k e).1)⟩
        case measure => simp [intOf]; omega
      · have hne : ((j : Int) + 1 == 4096) = false := by rw [beq_eq_false_iff_ne]; omega
        go_wp2
        go_roundw
        case rel => exact ⟨q, j + 1, by omega, by omega, by go_num, hinv2, hb2⟩
        case measure => simp [intOf]; omega
    · have hkn : q * 4096 + j = ps.length := by omega
      have hsz := hb.size
      obtain ⟨⟨cs, hcv, hco⟩, hown, hsep⟩ := hinv
      by_cases hj0 : j = 0
      · subst hj0
        have HK : Hid (q * 4096 = ps.length) := hkn
        clear hkn
        obtain ⟨ca, l, ccap, rfl⟩ : ∃ ca l ccap, u3 = .slice ca l ccap := by
          rcases hcv.2 with ⟨h, _⟩ | ⟨_, _, _, h, _⟩ <;> exact ⟨_, _, _, h⟩
        obtain ⟨ha, hl, hcc, rfl⟩ : ∃ ha hl hcc, u4 = .slice ha hl hcc := by
          rcases hown.2 with ⟨h, _⟩ | ⟨_, _, _, h, _⟩ <;> exact ⟨_, _, _, h⟩
        have hl0 : hl = 0 := by
          rcases hown.2 with ⟨h, _⟩ | ⟨_, _, _, h, _⟩
          · exact (Value.slice.inj h).2.1
          · exact (Value.slice.inj h).2.1
        subst hl0
        go_wp2_with (go_at_call 15; refine (register_any _ _ _ _ _).mono ?_; rintro e w2 ⟨rfl, o, rfl, h12, h13, h14⟩)
        go_ret
        have hkn := HK.out
        exact ⟨_, rfl, regOf_mk rfl hcv hco (fun k hk => ⟨by omega, by omega⟩) o h12 h13 h14, hb.alloc hsz _⟩
      · have HK : Hid (q * 4096 + j = ps.length) := hkn
        clear hkn
        obtain ⟨g, hc, rfl, hBg, hgl⟩ := hown.form (by omega)
        have hjp : (0 : Int) < (j : Int) := by omega
        go_wp2_with (go_at_call 14; refine (appendChunk_any w.heap.size _ q cs _ _ _ _ hcv (by omega) hsz).mono ?_; rintro e w3 ⟨g3, cap3, rfl, hcv3, hgr3, hat3, hlt3⟩)
        have hkn := HK.out
        have hco3 := ChunksOk.push (cb' := some g3) (hco.congr (len' := fun i => if i = q then j else 4096) (fun i hi => if_neg (by omega))) (by simpa using hcv.1) hown (by omega) (by omega) (if_pos rfl) hsep hgr3 (by rcases hat3 with h | h; exact .inl h.symm; exact .inr ⟨g3, rfl, h⟩)
        have hb3 := hb.grown hgr3 hsz (fun k e => (hcv.lt k e).1)
        clear hkn hcv hco hown hsep hgr3 hat3
        go_wp2_with (go_at_call 15; refine (register_any _ _ _ _ _).mono ?_; rintro e w2 ⟨rfl, o, rfl, h12, h13, h14⟩)
        go_ret
        have hkn := HK.out
        exact ⟨_, rfl, regOf_mk rfl hcv3 hco3 (fun k hk => ⟨by omega, by show k % 4096 < if k / 4096 = q then j else 4096; split <;> omega⟩) o h12 h13 h14, hb3.alloc hb3.size _⟩
end Go.Proofs.Qxb6614794a
