import Derived.Test.Qxb6614903aReads
namespace Go.Proofs.Qxb6614903a
open Go.RowKit

def seqDrop : Nat → Code → Code
  | 0, c => c
  | n + 1, .seq _ b => seqDrop n b
  | _ + 1, c => c

/-- A part put in at place c. -/
def putp (ps : List (List Int)) (c : Nat) (x : List Int) : List (List Int) := ps.take c ++ [x] ++ ps.drop c
theorem putp_len (ps : List (List Int)) (c : Nat) (x : List Int) (hc : c ≤ ps.length) : (putp ps c x).length = ps.length + 1 := by
  simp [putp]; omega
theorem putp_get? (ps : List (List Int)) (c : Nat) (x : List Int) (k : Nat) (hc : c ≤ ps.length) : (putp ps c x)[k]? = if k < c then ps[k]? else if k = c then some x else ps[k - 1]? := by
  unfold putp
  rw [List.append_assoc]
  by_cases h1 : k < c
  · rw [if_pos h1, List.getElem?_append_left (by simp; omega), List.getElem?_take, if_pos h1]
  · rw [if_neg h1, List.getElem?_append_right (by simp; omega)]
    have tl : (ps.take c).length = c := by simp; omega
    rw [tl]
    by_cases h2 : k = c
    · subst h2
      rw [if_pos rfl, Nat.sub_self]
      rfl
    · rw [if_neg h2]
      have e : k - c = (k - c - 1) + 1 := by omega
      rw [e, List.singleton_append, List.getElem?_cons_succ, List.getElem?_drop]
      congr 1
      omega
theorem putp_lt (ps : List (List Int)) (c : Nat) (x : List Int) (k : Nat) (hc : c ≤ ps.length) (hk : k < c) (h : k < (putp ps c x).length) (h' : k < ps.length) : (putp ps c x)[k] = ps[k] := by
  have := putp_get? ps c x k hc
  rw [if_pos hk, List.getElem?_eq_getElem h, List.getElem?_eq_getElem h'] at this
  exact Option.some.inj this
theorem putp_eq (ps : List (List Int)) (c : Nat) (x : List Int) (hc : c ≤ ps.length) (h : c < (putp ps c x).length) : (putp ps c x)[c] = x := by
  have := putp_get? ps c x c hc
  rw [if_neg (by omega), if_pos rfl, List.getElem?_eq_getElem h] at this
  exact Option.some.inj this
theorem putp_gt (ps : List (List Int)) (c : Nat) (x : List Int) (k : Nat) (hc : c ≤ ps.length) (hk : c ≤ k) (h : k + 1 < (putp ps c x).length) (h' : k < ps.length) : (putp ps c x)[k + 1] = ps[k] := by
  have := putp_get? ps c x (k + 1) hc
  rw [if_neg (by omega), if_neg (by omega), List.getElem?_eq_getElem h, Nat.add_sub_cancel, List.getElem?_eq_getElem h'] at this
  exact Option.some.inj this
theorem tot_putp (ps : List (List Int)) (c : Nat) (x : List Int) (hc : c ≤ ps.length) : tot (putp ps c x) c = tot ps c := by
  unfold tot putp
  rw [List.append_assoc, List.take_append_of_le_length (by simp; omega), List.take_take, Nat.min_self]
/-- What lies ahead of place c, and what lies behind it. -/
def fore (hs : List Int) (ps : List (List Int)) (c : Nat) : List Int := sb opn ++ hs ++ (ps.take c).flatten
def aft (ps : List (List Int)) (c : Nat) : List Int := (ps.drop c).flatten ++ sb cls
theorem fore_len (hs : List Int) (ps : List (List Int)) (c : Nat) : (fore hs ps c).length = 44 + hs.length + tot ps c := text_pre_len hs ps c
theorem text_old (hs : List Int) (ps : List (List Int)) (c : Nat) : text (hs :: ps) = fore hs ps c ++ aft ps c := by
  unfold fore aft
  rw [text_head, flat_split ps c]
  simp only [List.append_assoc]
theorem text_put (hs : List Int) (ps : List (List Int)) (c : Nat) (x : List Int) : text (hs :: putp ps c x) = fore hs ps c ++ x ++ aft ps c := by
  unfold fore aft putp
  rw [text_head]
  simp only [List.flatten_append, List.flatten_cons, List.flatten_nil, List.append_nil, List.append_assoc]
theorem sz_putp (hs : List Int) (ps : List (List Int)) (c : Nat) (x : List Int) : sz (hs :: putp ps c x) = sz (hs :: ps) + x.length := by
  have h1 := text_len (hs :: putp ps c x)
  have h2 := text_len (hs :: ps)
  rw [text_put hs ps c x, List.length_append, List.length_append] at h1
  rw [text_old hs ps c, List.length_append] at h2
  omega

theorem cell_lo {w : World} {g : Nat} {bs : List Int} (h : BytesAt w (some ⟨g, 0, none⟩) bs) (k : Nat) (v : Int) (hv : bs[k]? = some v) : w.cell? ⟨g, k, none⟩ = some (.int .u8 v) := by
  obtain ⟨hk, rfl⟩ := List.getElem?_eq_some_iff.1 hv
  obtain ⟨b, off, e, c⟩ := h k hk
  cases e
  rw [Nat.zero_add] at c
  exact c
theorem split_fore {hs : List Int} {ps : List (List Int)} {c k : Nat} (x : List Int) (hk : k < 44 + hs.length + tot ps c) : ∃ v, (text (hs :: ps))[k]? = some v ∧ (text (hs :: putp ps c x))[k]? = some v := by
  have hl : k < (fore hs ps c).length := by rw [fore_len]; exact hk
  refine ⟨(fore hs ps c)[k], ?_, ?_⟩
  · rw [text_old hs ps c, List.getElem?_append_left hl, List.getElem?_eq_getElem hl]
  · rw [text_put, List.append_assoc, List.getElem?_append_left hl, List.getElem?_eq_getElem hl]
theorem split_mid {hs : List Int} {ps : List (List Int)} {c k : Nat} (x : List Int) (hk : k < x.length) : (text (hs :: putp ps c x))[44 + hs.length + tot ps c + k]? = some x[k] := by
  rw [text_put, ← fore_len, List.getElem?_append_left (by rw [List.length_append]; omega), List.getElem?_append_right (by omega), Nat.add_sub_cancel_left, List.getElem?_eq_getElem hk]
theorem split_aft {hs : List Int} {ps : List (List Int)} {c k : Nat} (x : List Int) (hk : 44 + hs.length + tot ps c ≤ k) (hn : k < 48 + sz (hs :: ps)) : ∃ v, (text (hs :: ps))[k]? = some v ∧ (text (hs :: putp ps c x))[k + x.length]? = some v := by
  have hl := fore_len hs ps c
  have ht := text_len (hs :: ps)
  refine ⟨(text (hs :: ps))[k]'(by omega), List.getElem?_eq_getElem _, ?_⟩
  rw [text_put, List.getElem?_append_right (by rw [List.length_append]; omega), List.length_append]
  have e : (text (hs :: ps))[k]? = (aft ps c)[k - (fore hs ps c).length]? := by rw [text_old hs ps c, List.getElem?_append_right (by omega)]
  rw [show k + x.length - ((fore hs ps c).length + x.length) = k - (fore hs ps c).length by omega, ← e]
  exact List.getElem?_eq_getElem _
end Go.Proofs.Qxb6614903a
