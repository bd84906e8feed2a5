/-
  The text that String writes is a JSON number, and stands for the decimal that it was written from. (No Go but the text's definition.)
-/
import Derived.Test.Qxb6602256aDoorWalksS
import Derived.Test.Qxb6602256aDoorPlainM
import Derived.Test.Qxb6602256aDoorLaw2
namespace Go.Proofs.Qxb6602256aDoor
open Go.Lib

namespace Pl
theorem strip_id {l : List UInt8} (h : l.head? ≠ some 48) : strip l = l := by
  cases l with
  | nil => rfl
  | cons c r =>
    unfold strip
    rw [List.dropWhile_cons, if_neg]
    simpa using h
theorem strip_zeros (k : Nat) (l : List UInt8) : strip (List.replicate k 48 ++ l) = strip l := by
  induction k with
  | zero => simp
  | succ k ih =>
    rw [List.replicate_succ, List.cons_append]
    unfold strip
    rw [List.dropWhile_cons, if_pos (by simp)]
    exact ih
theorem stripR_id {l : List UInt8} (h : l.getLast? ≠ some 48) : stripR l = l := by
  rw [← List.head?_reverse] at h
  have := strip_id h
  unfold strip at this
  unfold stripR trimRightB
  rw [this, List.reverse_reverse]
theorem stripR_zeros (k : Nat) (l : List UInt8) : stripR (l ++ List.replicate k 48) = stripR l := by
  have := strip_zeros k l.reverse
  unfold strip at this
  unfold stripR trimRightB
  rw [List.reverse_append, List.reverse_replicate, this]
theorem itxt_neg (z : Int) : neg (itxt z) = decide (z < 0) := txt_neg _ _
theorem itxt_mag (z : Int) : mag (itxt z) = decDigits z.natAbs := txt_mag _ _
theorem itxt_canon {z : Int} (h : z ≠ 0) : Canon (itxt z) := txt_canon _ (by omega)
theorem sum_itxt {z : Int} (h : 1 < z.natAbs) : sum (itxt z) (-1) = itxt (z - 1) := by
  unfold sum
  rw [itxt_neg, itxt_mag, val_dec]
  unfold itxt
  by_cases hz : z < 0
  · have h1 : z - 1 < 0 := by omega
    have h2 : (z - 1).natAbs = z.natAbs + (-1 : Int).natAbs := by omega
    simp [hz, h1, h2]
  · have h1 : ¬ z - 1 < 0 := by omega
    have h2 : (z - 1).natAbs = z.natAbs - (-1 : Int).natAbs := by omega
    simp only [hz, h1, h2, decide_false, if_neg (show ¬ (decide ((-1 : Int) < 0) = false) by decide)]
theorem itxt_sign (z : Int) : itxt z = (if z < 0 then [45] else []) ++ decDigits z.natAbs := by
  unfold itxt txt
  by_cases h : z < 0 <;> simp [h]
theorem written_itxt (z : Int) : written (if z < 0 then [45] else []) (decDigits z.natAbs) = z := by
  unfold written
  rw [val_dec]
  by_cases h : z < 0
  · simp [h]; omega
  · simp [h]; omega

/-- Digits as a decimal holds them. -/
structure Digs (l : List UInt8) : Prop where
  all : AllD l
  ne : l ≠ []
  head : l.head? ≠ some 48
  last : l.getLast? ≠ some 48
/-- A decimal of exponent E. -/
structure Of (d : Dec) (E : Int) : Prop where
  digs : Digs d.digits
  exp : (d.far = [] ∧ d.exp = E ∧ fits E = true) ∨ (d.far = itxt E ∧ fits E = false)

def sciN (d : Dec) (E : Int) : Num := ⟨d.neg, d.digits.take 1, d.digits.drop 1, 101, if E - 1 < 0 then [45] else [], decDigits (E - 1).natAbs⟩
def lowN (d : Dec) (k : Nat) : Num := ⟨d.neg, [48], List.replicate k 48 ++ d.digits, 101, [], []⟩
def bigN (d : Dec) (k : Nat) : Num := ⟨d.neg, d.digits ++ List.replicate k 48, [], 101, [], []⟩
def midN (d : Dec) (e : Nat) : Num := ⟨d.neg, d.digits.take e, d.digits.drop e, 101, [], []⟩
/-- What parsing the text gives. -/
def Dec.norm (d : Dec) : Dec := ⟨d.neg, d.digits, if d.far = [] then d.exp else 0, d.far⟩
theorem itxt_ne (z : Int) : itxt z ≠ [] := by
  rw [itxt_sign]
  have := dec_ne z.natAbs
  simp [this]
theorem dec_of_total {n : Num} {d : Dec} {E : Int} (h : Of d E) (hs : n.sign = d.neg) (hd : n.digits = d.digits) (ht : n.total = E) : n.dec = d.norm := by
  unfold Num.dec Dec.norm
  rw [hd, ht, hs, if_neg h.digs.ne]
  rcases h.exp with ⟨h1, h2, h3⟩ | ⟨h1, h2⟩
  · rw [if_pos h3, if_pos h1, h1, h2]
  · rw [if_neg (by rw [h2]; decide), h1, if_neg (itxt_ne E)]
theorem zeros_all (k : Nat) : AllD (List.replicate k 48) := fun x hx => by
  rw [(List.mem_replicate.1 hx).2]; decide
theorem sciN_ok {d : Dec} {E : Int} (h : Of d E) : (sciN d E).Ok ∧ (sciN d E).dec = d.norm := by
  obtain ⟨hall, hne, hhead, hlast⟩ := h.digs
  cases hd : d.digits with
  | nil => exact absurd hd hne
  | cons c r =>
    rw [hd] at hall hhead hlast
    have hall' : (sciN d E).all = c :: r := by simp [Num.all, sciN, hd]
    have hsig : (sciN d E).sig = c :: r := by rw [Num.sig, hall', strip_id hhead]
    refine ⟨⟨?_, ?_, ?_, ?_, ?_, Or.inl rfl, ?_⟩, dec_of_total h rfl ?_ ?_⟩
    · simp [sciN, hd]
    · simpa [sciN, hd] using AllD.one hall.head
    · right; simpa [sciN, hd] using hhead
    · simpa [sciN, hd] using hall.tail
    · exact dec_all _
    · unfold sciN; dsimp only; split
      · exact Or.inr (Or.inr rfl)
      · exact Or.inl rfl
    · rw [Num.digits, hsig, stripR_id hlast, hd]
    · rw [Num.total, Num.shift, hsig, hall', show written (sciN d E).esign (sciN d E).exp = E - 1 from written_itxt _]
      simp [sciN, hd]
theorem lowN_ok {d : Dec} {E : Int} (h : Of d E) {k : Nat} (hk : E = -(k : Int)) : (lowN d k).Ok ∧ (lowN d k).dec = d.norm := by
  obtain ⟨hall, hne, hhead, hlast⟩ := h.digs
  have hsig : (lowN d k).sig = d.digits := by
    rw [Num.sig, Num.all, lowN]
    dsimp only
    rw [← List.append_assoc, show [48] ++ List.replicate k (48 : UInt8) = List.replicate (k + 1) 48 from rfl, strip_zeros, strip_id hhead]
  refine ⟨⟨by simp [lowN], AllD.one (by decide), Or.inl rfl, (zeros_all k).append hall, AllD.nil, Or.inl rfl, Or.inl rfl⟩, dec_of_total h rfl ?_ ?_⟩
  · rw [Num.digits, hsig, stripR_id hlast]
  · rw [Num.total, Num.shift, hsig, hk]
    simp [Num.all, lowN, written, val]
    omega
theorem bigN_ok {d : Dec} {E : Int} (h : Of d E) {k : Nat} (hk : E = (d.digits.length : Int) + (k : Int)) : (bigN d k).Ok ∧ (bigN d k).dec = d.norm := by
  obtain ⟨hall, hne, hhead, hlast⟩ := h.digs
  have hh2 : (d.digits ++ List.replicate k 48).head? ≠ some 48 := by
    cases hd : d.digits with
    | nil => exact absurd hd hne
    | cons c r => rw [hd] at hhead; simpa using hhead
  have hall' : (bigN d k).all = d.digits ++ List.replicate k 48 := by simp [Num.all, bigN]
  have hsig : (bigN d k).sig = d.digits ++ List.replicate k 48 := by rw [Num.sig, hall', strip_id hh2]
  refine ⟨⟨by simp [bigN, hne], hall.append (zeros_all k), Or.inr hh2, AllD.nil, AllD.nil, Or.inl rfl, Or.inl rfl⟩, dec_of_total h rfl ?_ ?_⟩
  · rw [Num.digits, hsig, stripR_zeros, stripR_id hlast]
  · rw [Num.total, Num.shift, hsig, hall', hk]
    simp [bigN, written, val]
theorem midN_ok {d : Dec} {E : Int} (h : Of d E) {e : Nat} (he : E = (e : Int)) (h0 : 0 < e) (hl : e < d.digits.length) : (midN d e).Ok ∧ (midN d e).dec = d.norm := by
  obtain ⟨hall, hne, hhead, hlast⟩ := h.digs
  have hall' : (midN d e).all = d.digits := by simp [Num.all, midN]
  have hsig : (midN d e).sig = d.digits := by rw [Num.sig, hall', strip_id hhead]
  refine ⟨⟨?_, hall.take _, Or.inr ?_, hall.drop _, AllD.nil, Or.inl rfl, Or.inl rfl⟩, dec_of_total h rfl ?_ ?_⟩
  · intro e0
    have e1 : d.digits.take e = [] := e0
    have := congrArg List.length e1
    rw [List.length_take, List.length_nil] at this
    omega
  · cases hd : d.digits with
    | nil => exact absurd hd hne
    | cons c r =>
      obtain ⟨e', rfl⟩ : ∃ e', e = e' + 1 := ⟨e - 1, by omega⟩
      rw [hd] at hhead
      simpa [midN, hd] using hhead
  · rw [Num.digits, hsig, stripR_id hlast]
  · rw [Num.total, Num.shift, hsig, hall', he]
    simp [midN, written, val, Nat.min_eq_left (Nat.le_of_lt hl)]
end Pl

theorem sciB_no {far : List UInt8} {exp : Int} (h : sciB far exp = false) : far = [] ∧ -5 ≤ exp ∧ exp ≤ 38 := by
  simp only [sciB, Bool.or_eq_false_iff, decide_eq_false_iff_not, ne_eq, Decidable.not_not] at h
  exact ⟨h.1.1, by omega, by omega⟩
theorem sci_big {d : Pl.Dec} {E : Int} (h : Pl.Of d E) (hs : sciB d.far d.exp = true) : 5 < E.natAbs := by
  rcases h.exp with ⟨h1, h2, h3⟩ | ⟨h1, h2⟩
  · simp only [sciB, h1, h2, ne_eq, not_true, decide_false, Bool.false_or, Bool.or_eq_true, decide_eq_true_eq] at hs
    omega
  · have := Pl.fits_no h2
    omega
theorem expTxt_of {d : Pl.Dec} {E : Int} (h : Pl.Of d E) : expTxt d = Pl.itxt E := by
  unfold expTxt
  rcases h.exp with ⟨h1, h2, h3⟩ | ⟨h1, h2⟩
  · rw [if_pos h1, h2]
  · rw [if_neg (by rw [h1]; exact Pl.itxt_ne E), h1]
theorem frc_text {n : Pl.Num} : n.fracText = frc n.frac := rfl
theorem sgn_text {n : Pl.Num} : n.signText = sgn n.sign := rfl
/-- The number that String writes. -/
def numOf (d : Pl.Dec) (E : Int) : Pl.Num :=
  if sciB d.far d.exp = true then Pl.sciN d E
  else if d.exp ≤ 0 then Pl.lowN d (-d.exp).toNat
  else if (d.digits.length : Int) ≤ d.exp then Pl.bigN d (d.exp - d.digits.length).toNat
  else Pl.midN d d.exp.toNat
theorem num_ok {d : Pl.Dec} {E : Int} (h : Pl.Of d E) : (numOf d E).Ok ∧ (numOf d E).dec = d.norm := by
  unfold numOf
  cases hs : sciB d.far d.exp with
  | true => rw [if_pos rfl]; exact Pl.sciN_ok h
  | false =>
    rw [if_neg (by decide)]
    obtain ⟨hf, _, _⟩ := sciB_no hs
    have hE : d.exp = E := by
      rcases h.exp with ⟨h1, h2, h3⟩ | ⟨h1, h2⟩
      · exact h2
      · rw [hf] at h1; exact absurd h1.symm (Pl.itxt_ne E)
    split
    · exact Pl.lowN_ok h (by omega)
    · split
      · exact Pl.bigN_ok h (by omega)
      · exact Pl.midN_ok h (e := d.exp.toNat) (by omega) (by omega) (by omega)
theorem num_text {d : Pl.Dec} {E : Int} (h : Pl.Of d E) : strD d = (numOf d E).text := by
  rw [strD, if_neg h.digs.ne]
  unfold strL
  cases hs : sciB d.far d.exp with
  | true =>
    have hN : numOf d E = Pl.sciN d E := by rw [numOf, if_pos hs]
    rw [hN, if_pos rfl, expTxt_of h, Pl.sum_itxt (by have := sci_big h hs; omega), Pl.itxt_sign]
    unfold Pl.Num.text
    rw [frc_text, sgn_text]
    simp [Pl.sciN, Pl.Num.expText, Pl.dec_ne]
  | false =>
    rw [if_neg Bool.false_ne_true]
    have hs' : ¬ sciB d.far d.exp = true := by rw [hs]; decide
    by_cases h1 : d.exp ≤ 0
    · have hN : numOf d E = Pl.lowN d (-d.exp).toNat := by rw [numOf, if_neg hs', if_pos h1]
      rw [hN, if_pos h1]
      unfold Pl.Num.text
      rw [frc_text, sgn_text]
      simp [Pl.lowN, Pl.Num.expText, frc, h.digs.ne]
    · by_cases h2 : (d.digits.length : Int) ≤ d.exp
      · have hN : numOf d E = Pl.bigN d (d.exp - d.digits.length).toNat := by rw [numOf, if_neg hs', if_neg h1, if_pos h2]
        rw [hN, if_neg h1, if_pos h2]
        unfold Pl.Num.text
        rw [frc_text, sgn_text]
        simp [Pl.bigN, Pl.Num.expText, frc]
      · have hN : numOf d E = Pl.midN d d.exp.toNat := by rw [numOf, if_neg hs', if_neg h1, if_neg h2]
        rw [hN, if_neg h1, if_neg h2]
        have hlt : d.exp.toNat < d.digits.length := by omega
        unfold Pl.Num.text
        rw [frc_text, sgn_text]
        simp [Pl.midN, Pl.Num.expText, frc, hlt]
theorem text_len {d : Pl.Dec} {E : Int} (h : Pl.Of d E) (hl : d.digits.length + (Pl.itxt E).length ≤ 1900000) : (strD d).length ≤ 2000000 := by
  rw [strD, if_neg h.digs.ne]
  unfold strL
  have hsg := sgn_len d.neg
  cases hs : sciB d.far d.exp with
  | true =>
    have hb := sci_big h hs
    have := Pl.sum_len (l := Pl.itxt E) (k := -1) (Pl.itxt_canon (by omega)) (by rw [Pl.itxt_mag, Pl.val_dec]; omega)
    have hfr := frc_len (d.digits.drop 1)
    rw [if_pos rfl, expTxt_of h]
    simp only [List.length_append, List.length_take, List.length_drop, List.length_cons, List.length_nil] at hfr ⊢
    omega
  | false =>
    obtain ⟨hf, _, _⟩ := sciB_no hs
    rw [if_neg (by decide)]
    split
    · simp only [List.length_append, List.length_replicate, List.length_cons, List.length_nil]; omega
    · split
      · simp only [List.length_append, List.length_replicate]; omega
      · simp only [List.length_append, List.length_take, List.length_drop, List.length_cons, List.length_nil]; omega
theorem fair_of {d : Pl.Dec} {E : Int} (h : Pl.Of d E) (h0 : -9223372036854775808 ≤ d.exp) (h1 : d.exp ≤ 9223372036854775807) (hl : d.digits.length + (Pl.itxt E).length ≤ 1900000) : Fair d := by
  refine ⟨h0, h1, by omega, fun _ hs => ?_⟩
  have hb := sci_big h hs
  rw [expTxt_of h]
  have hc := Pl.itxt_canon (z := E) (by omega)
  have hv : 1 < Pl.val (Pl.mag (Pl.itxt E)) := by rw [Pl.itxt_mag, Pl.val_dec]; omega
  have := Pl.sum_len (l := Pl.itxt E) (k := -1) hc (by exact hv)
  exact ⟨hc, hv, by omega, by omega⟩
end Go.Proofs.Qxb6602256aDoor
