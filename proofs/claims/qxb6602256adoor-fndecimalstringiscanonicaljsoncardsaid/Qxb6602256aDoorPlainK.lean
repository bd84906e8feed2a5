/-
  The decimal that a JSON number stands for; ParseInt's answer on its exponent. No Go in it.
-/
import Derived.Test.Qxb6602256aDoorPlainJ
import Derived.Lib.ParseIntB
import Derived.Lib.TrimByte
namespace Go.Proofs.Qxb6602256aDoor.Pl
open Go.Lib

def fits (z : Int) : Bool := decide (-9223372036854775808 ≤ z) && decide (z ≤ 9223372036854775807)
theorem fits_iff (z : Int) : fits z = true ↔ -9223372036854775808 ≤ z ∧ z ≤ 9223372036854775807 := by simp [fits]
theorem fits_no {z : Int} (h : fits z = false) : z < -9223372036854775808 ∨ 9223372036854775807 < z := by
  have : ¬ (-9223372036854775808 ≤ z ∧ z ≤ 9223372036854775807) := fun e => by rw [(fits_iff z).2 e] at h; cases h
  omega
/-- An integer's text. -/
def itxt (z : Int) : List UInt8 := txt (decide (z < 0)) z.natAbs
theorem itxt_itoa (z : Int) : itxt z = itoa z := by
  unfold itxt itoa txt
  by_cases h : z < 0
  · simp [h]
  · have : z.natAbs = z.toNat := by omega
    simp [h, this]

/-! ### ParseUint, ParseInt on digits -/
theorem parseUintM_digits : ∀ (l : List UInt8), AllD l → ∀ acc : Nat, acc ≤ 18446744073709551615 →
    parseUintM 18446744073709551615 acc l = if acc * 10 ^ l.length + val l ≤ 18446744073709551615 then .ok (acc * 10 ^ l.length + val l) else .range := by
  intro l
  induction l with
  | nil => intro _ acc h; simp [parseUintM, val, h]
  | cons c r ih =>
    intro hd acc hacc
    have hc := hd.head
    have hval : acc * 10 ^ (c :: r).length + val (c :: r) = (acc * 10 + (c.toNat - 48)) * 10 ^ r.length + val r := by
      rw [val_cons, List.length_cons, Nat.pow_succ, Nat.add_mul, Nat.mul_assoc, Nat.mul_comm 10]
      omega
    have hp := pow_pos10 r.length
    rw [hval]
    unfold parseUintM
    rw [if_pos hc]
    by_cases h1 : 1844674407370955162 ≤ acc
    · rw [if_pos h1, if_neg]
      have : 18446744073709551616 * 1 ≤ (acc * 10 + (c.toNat - 48)) * 10 ^ r.length := Nat.mul_le_mul (by omega) hp
      omega
    · rw [if_neg h1]
      by_cases h2 : 18446744073709551615 < acc * 10 + (c.toNat - 48)
      · rw [if_pos h2, if_neg]
        have : 18446744073709551616 * 1 ≤ (acc * 10 + (c.toNat - 48)) * 10 ^ r.length := Nat.mul_le_mul (by omega) hp
        omega
      · rw [if_neg h2]
        exact ih hd.tail _ (by omega)
theorem parseUintB_digits {l : List UInt8} (h : AllD l) (h0 : l ≠ []) : parseUintB 64 l = if val l ≤ 18446744073709551615 then .ok (val l) else .range := by
  unfold parseUintB
  rw [if_neg h0]
  have := parseUintM_digits l h 0 (by decide)
  simp only [Nat.zero_mul, Nat.zero_add] at this
  exact this
/-- The written exponent. -/
def written (sg E : List UInt8) : Int := if sg = [45] then -(val E : Int) else (val E : Int)
theorem parseInt_text {sg E : List UInt8} (hs : sg = [] ∨ sg = [43] ∨ sg = [45]) (hd : AllD E) (h0 : E ≠ []) : parseIntB 64 (sg ++ E) = if fits (written sg E) = true then .ok (written sg E) else .range := by
  have hU := parseUintB_digits hd h0
  rcases hs with rfl | rfl | rfl
  · rw [List.nil_append]
    cases hE : E with
    | nil => exact absurd hE h0
    | cons c r =>
      rw [hE] at hd
      have hc := hd.head
      have hc45 : c.toNat ≠ 45 := by omega
      unfold parseIntB
      dsimp only
      rw [if_neg (by omega), ← hE, hU]
      by_cases h1 : val E ≤ 18446744073709551615
      · rw [if_pos h1]
        by_cases h2 : 9223372036854775808 ≤ val E
        · have hf : fits (val E : Int) = false := by rw [Bool.eq_false_iff, ne_eq, fits_iff]; omega
          simp [written, hf, h2, hc45]
        · have hf : fits (val E : Int) = true := by rw [fits_iff]; omega
          simp [written, hf, h2, hc45]
      · have hf : fits (val E : Int) = false := by rw [Bool.eq_false_iff, ne_eq, fits_iff]; omega
        rw [if_neg h1]
        simp [written, hf]
  · unfold parseIntB
    simp only [List.cons_append, List.nil_append]
    rw [if_pos (by decide), hU]
    by_cases h1 : val E ≤ 18446744073709551615
    · rw [if_pos h1]
      by_cases h2 : 9223372036854775808 ≤ val E
      · have hf : fits (val E : Int) = false := by rw [Bool.eq_false_iff, ne_eq, fits_iff]; omega
        simp [written, hf, h2]
      · have hf : fits (val E : Int) = true := by rw [fits_iff]; omega
        simp [written, hf, h2]
    · have hf : fits (val E : Int) = false := by rw [Bool.eq_false_iff, ne_eq, fits_iff]; omega
      rw [if_neg h1]
      simp [written, hf]
  · unfold parseIntB
    simp only [List.cons_append, List.nil_append]
    rw [if_pos (by decide), hU]
    by_cases h1 : val E ≤ 18446744073709551615
    · rw [if_pos h1]
      by_cases h2 : 9223372036854775808 < val E
      · have hf : fits (-(val E : Int)) = false := by rw [Bool.eq_false_iff, ne_eq, fits_iff]; omega
        simp [written, hf, h2]
      · have hf : fits (-(val E : Int)) = true := by rw [fits_iff]; omega
        simp [written, hf, h2]
    · have hf : fits (-(val E : Int)) = false := by rw [Bool.eq_false_iff, ne_eq, fits_iff]; omega
      rw [if_neg h1]
      simp [written, hf]
theorem parseInt_itxt (z : Int) : parseIntB 64 (itxt z) = if fits z = true then .ok z else .range := by
  unfold itxt txt
  by_cases h : z < 0
  · have := parseInt_text (sg := [45]) (Or.inr (Or.inr rfl)) (dec_all z.natAbs) (dec_ne _)
    simp only [written, if_true, val_dec, List.cons_append, List.nil_append] at this
    rw [show -(z.natAbs : Int) = z by omega] at this
    simpa [h] using this
  · have := parseInt_text (sg := []) (Or.inl rfl) (dec_all z.natAbs) (dec_ne _)
    have e : written [] (decDigits z.natAbs) = z := by simp [written, val_dec]; omega
    rw [List.nil_append, e] at this
    simpa [h] using this

/-! ### The decimal -/
structure Dec where
  neg : Bool
  digits : List UInt8
  exp : Int
  far : List UInt8

def stripR (l : List UInt8) : List UInt8 := trimRightB l 48
namespace Num
def all (n : Num) : List UInt8 := n.int ++ n.frac
def sig (n : Num) : List UInt8 := strip n.all
def digits (n : Num) : List UInt8 := stripR n.sig
def shift (n : Num) : Int := (n.int.length : Int) - ((n.all.length : Int) - (n.sig.length : Int))
def total (n : Num) : Int := written n.esign n.exp + n.shift
def dec (n : Num) : Dec := if n.digits = [] then ⟨false, [], 0, []⟩ else if fits n.total = true then ⟨n.sign, n.digits, n.total, []⟩ else ⟨n.sign, n.digits, 0, itxt n.total⟩

theorem sig_len (n : Num) : n.sig.length ≤ n.all.length := strip_len _
theorem all_len (n : Num) : n.all.length = n.int.length + n.frac.length := by simp [all]
theorem shift_le (n : Num) : n.shift ≤ n.int.length ∧ -(n.frac.length : Int) ≤ n.shift := by
  have h1 := n.sig_len
  have h2 := n.all_len
  unfold shift
  omega
end Num
end Go.Proofs.Qxb6602256aDoor.Pl
