import Derived.Test.Qxb6614903aGrow
namespace Go.Proofs.Qxb6614903a
open Go.RowKit

set_option maxRecDepth 100000 in
set_option maxHeartbeats 2000000 in
theorem concat_any (A B : Nat) (ha ao : Option Addr) (hc cap : Nat) (hs : List Int) (ps : List (List Int)) (w : World) (hl : ps.length ≤ 2097152) (h1 : BytesAt w ha hs) (hh : ha = none → hc = 0) (hhl : hs.length ≤ maxLen) (h : PartsAt w ao ps) (hnil : ao = none → cap = 0)
    (c0 : w.cell? ⟨B, 0, none⟩ = some (.slice (some ⟨A, 0, none⟩) 1 1)) (c1 : w.cell? ⟨B, 1, none⟩ = some (.slice ao ps.length cap)) (c2 : w.cell? ⟨A, 0, none⟩ = some (.slice ha hs.length hc)) :
    Calls Try.prog 63 #[.slice (some ⟨B, 0, none⟩) 2 2] w fun e w' => (∃ g c, e = .returned (.slice (some ⟨g, 0, none⟩) (1 + ps.length) c) ∧ PartsAt w' (some ⟨g, 0, none⟩) (hs :: ps)) ∧ Below w.heap.size w w' := by
  obtain ⟨i22, hi22, y0, y1, y2⟩ := info_parts Try.info22
  obtain ⟨vs, hvs, hva⟩ := h.vals
  have hvl := hide hvs.1
  have hpo : PartOf w (.slice ha hs.length hc) hs := ⟨ha, hc, rfl, h1, hh, hhl⟩
  have HVS : Hid (PartsOf w (.slice ha hs.length hc :: vs) (hs :: ps)) := hide (PartsOf.app (PartsOf.single hpo) hvs)
  have HVA := hide hva
  have HNIL := hide hnil
  have hone := hvs.one
  clear h hvs hva hpo h1 hh hhl hnil
  go_enter Try.func63, Try.ntmps63
  go_wp2_with fail
  go_loop [3, 5, 11] (fun t _ i => (i = .int .i64 0 ∧ t = .int .i64 0) ∨ (i = .int .i64 1 ∧ t = .int .i64 1) ∨ (i = .int .i64 2 ∧ t = .int .i64 (1 + ps.length : Nat))) (fun _ _ i => 2 - (intOf i).toNat)
  case atStart => exact .inl ⟨rfl, rfl⟩
  case round =>
    rcases hrel with ⟨rfl, rfl⟩ | ⟨rfl, rfl⟩ | ⟨rfl, rfl⟩
    · go_wp2
      go_round
      case rel => exact .inr (.inl ⟨rfl, rfl⟩)
      case measure => simp [intOf]
    · go_wp2
      go_round
      case rel => exact .inr (.inr ⟨rfl, by go_num⟩)
      case measure => simp [intOf]
    · go_wp2_with fail
      refine (grow_nil (1 + ps.length) w (by omega) (by omega)).mono ?_
      rintro e w1 ⟨⟨g, c, rfl, hgc, own1⟩, hb1⟩
      go_wp2_with fail
      have hgw : w.heap.size ≤ g := by have := own1.lt _ rfl; exact this.1
      go_loopw [6, 8, 27] (fun v _ i wr => ((i = .int .i64 0 ∧ v = .slice (some ⟨g, 0, none⟩) 0 c ∧ wr.ownsRow w.heap.size 22 1 (.slice (some ⟨g, 0, none⟩) 0 c) 0 []) ∨ (i = .int .i64 1 ∧ v = .slice (some ⟨g, 0, none⟩) 1 c ∧ wr.ownsRow w.heap.size 22 1 (.slice (some ⟨g, 0, none⟩) 1 c) 1 [.slice ha hs.length hc]) ∨ (i = .int .i64 2 ∧ v = .slice (some ⟨g, 0, none⟩) (1 + ps.length) c ∧ wr.ownsRow w.heap.size 22 1 (.slice (some ⟨g, 0, none⟩) (1 + ps.length) c) (1 + ps.length) (.slice ha hs.length hc :: vs))) ∧ Below w.heap.size w wr) (fun _ _ i _ => 2 - (intOf i).toNat)
      case atStart => exact ⟨.inl ⟨rfl, rfl, own1⟩, hb1⟩
      case round =>
        clear own1 hb1
        rename World => wr
        obtain ⟨⟨rfl, rfl, own⟩ | ⟨rfl, rfl, own⟩ | ⟨rfl, rfl, own⟩, hb⟩ := hrel
        · have d0 := cell_keep c0 hb
          have d1 := cell_keep c1 hb
          have d2 := cell_keep c2 hb
          have hn : ∀ j u, [Value.slice ha hs.length hc][j]? = some u → wr.cell? ((⟨A, 0, none⟩ : Addr).add j) = some u := by
            intro j u hu
            cases j with
            | zero => simp at hu; subst hu; rw [Addr.add_lit]; exact d2
            | succ j => simp at hu
          have HNE := hide hn
          have HOWN := hide own
          clear hn own c0 c1 c2
          go_wp2_with (at_builtin; refine wpList_append_fits _ rfl (.tmp 31) (.tmp 32) 23 rfl w.heap.size 22 i22 1 Try.underlying23 hi22 y1 g 0 c [] rfl (unhide HOWN) ⟨A, 0, none⟩ 1 1 [.slice ha hs.length hc] rfl rfl (unhide HNE) (one_prt _ _ _) (by omega) ?_; intro w3 o3 gr3)
          go_roundw
          case rel => exact ⟨.inr (.inl ⟨rfl, rfl, o3⟩), hb.grown gr3 hb.size (by intro k e; cases e; exact hgw)⟩
          case measure => simp [intOf]
        · have d0 := cell_keep c0 hb
          have d1 := cell_keep c1 hb
          have hva := hide ((unhide HVA).below hb).news
          have hl3 : vs.length = ps.length * 1 := by rw [unhide hvl, Nat.mul_one]
          have HL3 := hide hl3
          have hz : ao = none → ps.length = 0 := fun e => by
            have := unhide HVA
            rcases Nat.eq_zero_or_pos vs.length with h0 | h0
            · have := unhide hvl; omega
            · obtain ⟨b, off, h1, -⟩ := this 0 h0
              rw [e] at h1; cases h1
          have HZ := hide hz
          have HOWN := hide own
          clear own c0 c1 c2 HVA hl3 hz
          go_wp2_with (at_builtin; refine wpList_append_fits_any _ rfl (.tmp 31) (.tmp 32) 23 rfl w.heap.size 22 i22 1 Try.underlying23 hi22 y1 g 1 c [.slice ha hs.length hc] rfl (unhide HOWN) ao ps.length cap vs rfl (unhide HL3) (fun e => ⟨unhide HZ e, unhide HNIL e⟩) (unhide hva) hone (by omega) ?_; intro w3 o3 gr3)
          go_roundw
          case rel => exact ⟨.inr (.inr ⟨rfl, rfl, o3⟩), hb.grown gr3 hb.size (by intro k e; cases e; exact hgw)⟩
          case measure => simp [intOf]
        · clear HVA c0 c1 c2
          go_wp2
          go_ret
          exact ⟨⟨g, c, rfl, own_parts own ((unhide HVS).below hb)⟩, hb⟩
end Go.Proofs.Qxb6614903a
