/-
  Places in a JSON number's text; how one pass gathers its digits. No Go in it.
-/
import Derived.Test.Qxb6602256aDoorPlainL
namespace Go.Proofs.Qxb6602256aDoor.Pl
open Go.Lib

theorem strip_snoc (l : List UInt8) (c : UInt8) : strip (l ++ [c]) = if strip l = [] then (if c = 48 then [] else [c]) else strip l ++ [c] := by
  unfold strip
  induction l with
  | nil =>
    by_cases h : c = 48
    · simp [h]
    · simp [h]
  | cons x l ih =>
    by_cases h : x = 48
    · subst h
      simp only [List.cons_append, List.dropWhile_cons, beq_self_eq_true, if_true]
      exact ih
    · have hb : (x == 48) = false := by simp [h]
      simp [hb]
theorem strip_take (A : List UInt8) (q : Nat) (c : UInt8) (h : A[q]? = some c) : strip (A.take (q + 1)) = if strip (A.take q) = [] then (if c = 48 then [] else [c]) else strip (A.take q) ++ [c] := by
  obtain ⟨hq, e⟩ := List.getElem?_eq_some_iff.1 h
  rw [List.take_succ_eq_append_getElem hq, e, strip_snoc]

/-- From the right. -/
theorem stripR_snoc (l : List UInt8) (c : UInt8) : stripR (l ++ [c]) = if c = 48 then stripR l else l ++ [c] := by
  unfold stripR trimRightB
  rw [List.reverse_append]
  by_cases h : c = 48
  · simp [h]
  · simp [h]
theorem stripR_nil : stripR [] = [] := rfl
theorem stripR_len (l : List UInt8) : (stripR l).length ≤ l.length := by
  unfold stripR trimRightB
  rw [List.length_reverse]
  have := (List.dropWhile_sublist (· == (48 : UInt8)) (l := l.reverse)).length_le
  simpa using this
theorem stripR_step (S : List UInt8) (e : Nat) (h : S[e]? = some 48) : stripR (S.take (e + 1)) = stripR (S.take e) := by
  obtain ⟨hq, e'⟩ := List.getElem?_eq_some_iff.1 h
  rw [List.take_succ_eq_append_getElem hq, e', stripR_snoc, if_pos rfl]
theorem stripR_stop (S : List UInt8) (e : Nat) (c : UInt8) (h : S[e]? = some c) (hc : c ≠ 48) : stripR (S.take (e + 1)) = S.take (e + 1) := by
  obtain ⟨hq, e'⟩ := List.getElem?_eq_some_iff.1 h
  rw [List.take_succ_eq_append_getElem hq, e', stripR_snoc, if_neg hc]

namespace Num
variable {n : Num}
def k0 (n : Num) : Nat := n.signText.length
theorem k0_eq (n : Num) : n.k0 = if n.sign then 1 else 0 := by unfold k0 signText; cases n.sign <;> rfl
theorem mant_len (n : Num) : n.mant.length = if n.frac = [] then n.int.length else n.all.length + 1 := by
  unfold mant fracText all
  split
  · simp
  · simp; omega
theorem text_at (n : Num) (j : Nat) : n.text[n.k0 + j]? = (n.mant ++ n.expText)[j]? := by
  unfold text k0 mant
  rw [List.getElem?_append_right (by omega), List.append_assoc]
  congr 1
  omega
theorem at_int (q : Nat) (h : q < n.int.length) : n.text[n.k0 + q]? = n.all[q]? := by
  rw [text_at]
  unfold mant all
  rw [List.append_assoc, List.getElem?_append_left h, List.getElem?_append_left h]
theorem at_dot (h : n.frac ≠ []) : n.text[n.k0 + n.int.length]? = some 46 := by
  rw [text_at]
  unfold mant fracText
  rw [if_neg h, List.append_assoc, List.getElem?_append_right (Nat.le_refl _)]
  simp
theorem at_frac (q : Nat) (h : n.frac ≠ []) (h1 : n.int.length ≤ q) (h2 : q < n.all.length) : n.text[n.k0 + (q + 1)]? = n.all[q]? := by
  rw [text_at]
  unfold all at h2 ⊢
  rw [List.length_append] at h2
  unfold mant fracText
  rw [if_neg h, List.append_assoc, List.getElem?_append_right (by omega), List.getElem?_append_right h1]
  rw [show q + 1 - n.int.length = (q - n.int.length) + 1 by omega, List.cons_append, List.getElem?_cons_succ, List.getElem?_append_left (by omega)]
theorem at_end : n.text[n.k0 + n.mant.length]? = n.expText.head? := by
  rw [text_at, List.getElem?_append_right (Nat.le_refl _)]
  simp [List.head?_eq_getElem?]
theorem text_len (n : Num) : n.text.length = n.k0 + (n.mant.length + n.expText.length) := by
  unfold text k0 mant
  simp
  omega
theorem drop_exp (he : n.exp ≠ []) : n.text.drop (n.k0 + n.mant.length + 1) = n.esign ++ n.exp := by
  unfold text k0
  rw [show n.signText ++ (n.int ++ (n.fracText ++ n.expText)) = (n.signText ++ n.mant) ++ n.expText by unfold mant; simp]
  rw [List.drop_append, List.drop_eq_nil_of_le (by simp)]
  unfold expText
  rw [if_neg he]
  simp
theorem all_digits (h : n.Ok) : AllD n.all := h.intd.append h.fracd
end Num
end Go.Proofs.Qxb6602256aDoor.Pl
