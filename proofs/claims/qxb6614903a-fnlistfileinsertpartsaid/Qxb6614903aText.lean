import Derived.Test.Qxb6614903aListFile
import Derived.Deep.RegionHeld3
import Derived.LaidEqlPtr
namespace Go.Proofs.Qxb6614903a
open Go.RowKit

theorem BytesAt.pre {w : World} {ao : Option Addr} {xs ys : List Int} (h : BytesAt w ao (xs ++ ys)) : BytesAt w ao xs := by
  intro k hk
  obtain ⟨b, off, h1, h2⟩ := h k (by rw [List.length_append]; omega)
  rw [List.getElem_append_left hk] at h2
  exact ⟨b, off, h1, h2⟩
theorem BytesAt.mid {w : World} {g : Nat} {xs ys zs : List Int} (h : BytesAt w (some ⟨g, 0, none⟩) (xs ++ ys ++ zs)) : BytesAt w (some ⟨g, xs.length, none⟩) ys := by
  intro k hk
  obtain ⟨b, off, h1, h2⟩ := h (xs.length + k) (by rw [List.length_append, List.length_append]; omega)
  cases h1
  refine ⟨g, xs.length, rfl, ?_⟩
  rw [List.getElem_append_left (by rw [List.length_append]; omega), List.getElem_append_right (by omega)] at h2
  rw [Nat.zero_add] at h2
  rw [h2]
  congr 2
  simp
theorem text_head (hs : List Int) (ps : List (List Int)) : text (hs :: ps) = sb opn ++ hs ++ (ps.flatten ++ sb cls) := by
  unfold text
  rw [List.flatten_cons]
  simp only [List.append_assoc]
theorem flat_at (ps : List (List Int)) (k : Nat) (hk : k < ps.length) : ps.flatten = (ps.take k).flatten ++ ps[k] ++ (ps.drop (k + 1)).flatten := by
  conv => lhs; rw [flat_split ps k, List.drop_eq_getElem_cons hk, List.flatten_cons]
  rw [List.append_assoc]
theorem text_part (hs : List Int) (ps : List (List Int)) (k : Nat) (hk : k < ps.length) : text (hs :: ps) = (sb opn ++ hs ++ (ps.take k).flatten) ++ ps[k] ++ ((ps.drop (k + 1)).flatten ++ sb cls) := by
  rw [text_head, flat_at ps k hk]
  simp only [List.append_assoc]
theorem text_pre_len (hs : List Int) (ps : List (List Int)) (k : Nat) : (sb opn ++ hs ++ (ps.take k).flatten).length = 44 + hs.length + tot ps k := by
  rw [List.length_append, List.length_append, sb_opn]
  rfl
theorem head_at {w : World} {g : Nat} {hs : List Int} {ps : List (List Int)} (h : BytesAt w (some ⟨g, 0, none⟩) (text (hs :: ps))) : BytesAt w (some ⟨g, 44, none⟩) hs := by
  rw [text_head] at h
  have := h.mid
  rwa [sb_opn] at this
theorem part_at {w : World} {g : Nat} {hs : List Int} {ps : List (List Int)} (h : BytesAt w (some ⟨g, 0, none⟩) (text (hs :: ps))) (k : Nat) (hk : k < ps.length) : BytesAt w (some ⟨g, 44 + hs.length + tot ps k, none⟩) ps[k] := by
  rw [text_part hs ps k hk] at h
  have := h.mid
  rwa [text_pre_len] at this
theorem view_at {w : World} {g q o : Nat} {hs : List Int} {ps : List (List Int)} (h : BytesAt w (some ⟨g, 0, none⟩) (text (hs :: ps))) (k : Nat) (hk : k < ps.length) (ho : o = 44 + hs.length) (hq : 0 < ps[k].length → q = o + tot ps k) : BytesAt w (some ⟨g, q, none⟩) ps[k] := by
  subst ho
  rcases Nat.eq_zero_or_pos ps[k].length with e | e
  · intro j hj
    omega
  · rw [hq e]
    exact part_at h k hk
theorem text_close (qs : List (List Int)) (k : Nat) (hk : k < cls.size) (h : (text qs).length - cls.size + k < (text qs).length) : (text qs)[(text qs).length - cls.size + k] = (cls[k].toNat : Int) := by
  have e : (text qs)[(text qs).length - cls.size + k]? = some (cls[k].toNat : Int) := by
    have hl := text_len qs
    have hc : cls.size = 4 := rfl
    have hp : (sb opn ++ qs.flatten).length = 44 + sz qs := by rw [List.length_append, sb_opn]; rfl
    have : (text qs).length - cls.size + k = 44 + sz qs + k := by omega
    rw [this]
    unfold text
    rw [List.getElem?_append_right (by omega), hp, Nat.add_sub_cancel_left, List.getElem?_eq_getElem (by rw [sb_len]; exact hk), sb_get cls k _ hk]
  exact Option.some.inj ((List.getElem?_eq_getElem h).symm.trans e)

theorem opensWith_text (g : Nat) (n : Nat) (qs : List (List Int)) (w : World) (hn : n = 48 + sz qs) (hl : n ≤ maxLen) (h : BytesAt w (some ⟨g, 0, none⟩) (text qs)) :
    Calls Try.prog 44 #[.slice (some ⟨g, 0, none⟩) n n, .string opn] w fun e w' => e = .returned (.bool true) ∧ Below w.heap.size w w' :=
  opensWith_any _ n n opn w hl (by have : opn.size = 44 := rfl; omega) (by
    unfold text at h
    rw [List.append_assoc] at h
    exact h.pre)
theorem closesWith_text (g : Nat) (n : Nat) (qs : List (List Int)) (w : World) (hn : n = 48 + sz qs) (hl : n ≤ maxLen) (h : BytesAt w (some ⟨g, 0, none⟩) (text qs)) :
    Calls Try.prog 45 #[.slice (some ⟨g, 0, none⟩) n n, .string cls] w fun e w' => e = .returned (.bool true) ∧ Below w.heap.size w w' := by
  have hc : cls.size = 4 := rfl
  have hl2 := text_len qs
  obtain rfl : n = (text qs).length := by omega
  exact closesWith_any _ _ (text qs) cls w hl (by omega) h (fun k hk => text_close qs k hk _)

set_option maxRecDepth 100000 in
theorem zzListFile_any (ha ao : Option Addr) (hc cap : Nat) (hs : List Int) (ps : List (List Int)) (w : World) (hl : ps.length ≤ 2097152) (hsz : hs.length + sz ps ≤ 2097152) (h1 : BytesAt w ha hs) (hh : ha = none → hc = 0) (h : PartsAt w ao ps) (hnil : ao = none → cap = 0) :
    Calls Try.prog 12 #[.slice ha hs.length hc, .slice ao ps.length cap] w fun e w' => (∃ V g P, e = .returned (.pointer (some ⟨V, 0, none⟩)) ∧ Vers w' V g P hs ps) ∧ Below w.heap.size w w' := by
  go_enter Try.func12, Try.ntmps12
  go_wp2_with fail
  refine (listFile_any ha ao hc cap hs ps w hl hsz h1 hh h hnil).mono ?_
  rintro e w1 ⟨⟨V, g, P, rfl, hv⟩, hb⟩
  go_wp2
  go_ret
  exact ⟨⟨V, g, P, rfl, hv⟩, hb⟩
theorem zzListFile_len (ha ao : Option Addr) (hc cap n m : Nat) (hs : List Int) (ps : List (List Int)) (w : World) (hn : hs.length = n) (hm : ps.length = m) (hl : ps.length ≤ 2097152) (hsz : hs.length + sz ps ≤ 2097152) (h1 : BytesAt w ha hs) (hh : ha = none → hc = 0) (h : PartsAt w ao ps) (hnil : ao = none → cap = 0) :
    Calls Try.prog 12 #[.slice ha n hc, .slice ao m cap] w fun e w' => (∃ V g P, e = .returned (.pointer (some ⟨V, 0, none⟩)) ∧ Vers w' V g P hs ps) ∧ Below w.heap.size w w' := by
  subst hn; subst hm
  exact zzListFile_any ha ao hc cap hs ps w hl hsz h1 hh h hnil
set_option maxRecDepth 100000 in
theorem versionData_any (V : Nat) (v : Value) (w : World) (h : w.cell? ⟨V, 0, none⟩ = some v) :
    Calls Try.prog 13 #[.pointer (some ⟨V, 0, none⟩)] w fun e w' => e = .returned v ∧ w' = w := by
  go_enter Try.func13, Try.ntmps13
  go_wp2
  go_ret
  exact ⟨rfl, rfl⟩
set_option maxRecDepth 100000 in
theorem versionParts_any (V : Nat) (v : Value) (w : World) (h : w.cell? ⟨V, 2, none⟩ = some v) :
    Calls Try.prog 14 #[.pointer (some ⟨V, 0, none⟩)] w fun e w' => e = .returned v ∧ w' = w := by
  go_enter Try.func14, Try.ntmps14
  go_wp2
  go_ret
  exact ⟨rfl, rfl⟩
end Go.Proofs.Qxb6614903a
