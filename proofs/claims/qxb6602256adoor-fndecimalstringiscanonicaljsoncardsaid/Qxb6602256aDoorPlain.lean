/-
  The plain mathematics of decimal numerals: no Go in it. Digits, their value, leading zeros.
-/
import Derived.Lib.ItoaNum
namespace Go.Proofs.Qxb6602256aDoor.Pl
open Go.Lib

/-- Every byte is a decimal digit. -/
def AllD (l : List UInt8) : Prop := ∀ c ∈ l, 48 ≤ c.toNat ∧ c.toNat ≤ 57

theorem AllD.nil : AllD [] := fun _ h => by cases h
theorem AllD.append {a b : List UInt8} (ha : AllD a) (hb : AllD b) : AllD (a ++ b) := fun c hc => (List.mem_append.1 hc).elim (ha c) (hb c)
theorem AllD.left {a b : List UInt8} (h : AllD (a ++ b)) : AllD a := fun c hc => h c (List.mem_append.2 (Or.inl hc))
theorem AllD.right {a b : List UInt8} (h : AllD (a ++ b)) : AllD b := fun c hc => h c (List.mem_append.2 (Or.inr hc))
theorem AllD.one {c : UInt8} (h : 48 ≤ c.toNat ∧ c.toNat ≤ 57) : AllD [c] := fun x hx => by simp at hx; subst hx; exact h
theorem AllD.cons {c : UInt8} {l : List UInt8} (h : 48 ≤ c.toNat ∧ c.toNat ≤ 57) (hl : AllD l) : AllD (c :: l) := AllD.append (a := [c]) (AllD.one h) hl
theorem AllD.head {c : UInt8} {l : List UInt8} (h : AllD (c :: l)) : 48 ≤ c.toNat ∧ c.toNat ≤ 57 := h c (List.mem_cons_self ..)
theorem AllD.tail {c : UInt8} {l : List UInt8} (h : AllD (c :: l)) : AllD l := fun x hx => h x (List.mem_cons_of_mem _ hx)
theorem AllD.take {l : List UInt8} (h : AllD l) (k : Nat) : AllD (l.take k) := fun x hx => h x (List.mem_of_mem_take hx)
theorem AllD.drop {l : List UInt8} (h : AllD l) (k : Nat) : AllD (l.drop k) := fun x hx => h x (List.mem_of_mem_drop hx)
theorem AllD.at {l : List UInt8} (h : AllD l) (k : Nat) (hk : k < l.length) : 48 ≤ l[k].toNat ∧ l[k].toNat ≤ 57 := h _ (List.getElem_mem hk)

/-- The value of a row of digits. -/
def val (l : List UInt8) : Nat := l.foldl (fun v c => v * 10 + (c.toNat - 48)) 0

theorem foldl_val (l : List UInt8) : ∀ a : Nat, l.foldl (fun v c => v * 10 + (c.toNat - 48)) a = a * 10 ^ l.length + val l := by
  induction l with
  | nil => intro a; simp [val]
  | cons c l ih =>
    intro a
    have h1 := ih (a * 10 + (c.toNat - 48))
    have h2 := ih (0 * 10 + (c.toNat - 48))
    simp only [val, List.foldl_cons, List.length_cons] at h1 h2 ⊢
    rw [h1, h2, Nat.pow_succ, Nat.add_mul, Nat.mul_assoc, Nat.mul_comm 10]
    simp [Nat.add_assoc]

theorem val_nil : val [] = 0 := rfl
theorem val_append (a b : List UInt8) : val (a ++ b) = val a * 10 ^ b.length + val b := by
  unfold val
  rw [List.foldl_append, foldl_val b (List.foldl _ 0 a)]
  rfl
theorem val_one (c : UInt8) : val [c] = c.toNat - 48 := by simp [val]
theorem val_snoc (l : List UInt8) (c : UInt8) : val (l ++ [c]) = val l * 10 + (c.toNat - 48) := by
  rw [val_append, val_one]; simp
theorem val_cons (c : UInt8) (l : List UInt8) : val (c :: l) = (c.toNat - 48) * 10 ^ l.length + val l := by
  have := val_append [c] l
  rw [val_one] at this
  exact this

theorem pow_pos10 (n : Nat) : 0 < 10 ^ n := Nat.pow_pos (by decide)

theorem val_lt {l : List UInt8} (h : AllD l) : val l < 10 ^ l.length := by
  induction l with
  | nil => simp [val]
  | cons c l ih =>
    have h1 := ih h.tail
    have h2 := h.head
    rw [val_cons, List.length_cons, Nat.pow_succ]
    have h3 : (c.toNat - 48) * 10 ^ l.length ≤ 9 * 10 ^ l.length := Nat.mul_le_mul_right _ (by omega)
    omega

theorem val_ge {c : UInt8} {l : List UInt8} (h : 48 ≤ c.toNat ∧ c.toNat ≤ 57) (hc : c ≠ 48) : 10 ^ l.length ≤ val (c :: l) := by
  have h48 : c.toNat ≠ 48 := fun e => hc (UInt8.toNat_inj.1 (by rw [e]; rfl))
  rw [val_cons]
  have h3 : 1 * 10 ^ l.length ≤ (c.toNat - 48) * 10 ^ l.length := Nat.mul_le_mul_right _ (by omega)
  omega

theorem ofNat_digit {c : UInt8} (h : 48 ≤ c.toNat ∧ c.toNat ≤ 57) : UInt8.ofNat (48 + (c.toNat - 48)) = c := by
  rw [show 48 + (c.toNat - 48) = c.toNat by omega]
  simp

theorem digit_toNat {d : Nat} (h : d < 10) : (UInt8.ofNat (48 + d)).toNat = 48 + d := by
  rw [UInt8.toNat_ofNat']
  omega

/-- A numeral without a leading zero is the numeral of its value. -/
theorem dec_val : ∀ (n : Nat) (l : List UInt8), l.length = n → AllD l → l ≠ [] → l.head? ≠ some 48 → decDigits (val l) = l := by
  intro n
  induction n with
  | zero => intro l hl _ h0 _; exact absurd (List.length_eq_zero_iff.1 hl) h0
  | succ n ih =>
    intro l hl ha h0 hh
    obtain ⟨l', c, rfl⟩ : ∃ l' c, l = l' ++ [c] := ⟨l.dropLast, l.getLast h0, (List.dropLast_concat_getLast h0).symm⟩
    have hc : 48 ≤ c.toNat ∧ c.toNat ≤ 57 := ha c (by simp)
    rw [val_snoc]
    cases l' with
    | nil =>
      rw [decDigits, dif_pos (by simp [val]; omega)]
      simp only [val_nil, Nat.zero_mul, Nat.zero_add, List.nil_append]
      rw [ofNat_digit hc]
    | cons x xs =>
      have hx : x ≠ 48 := fun e => hh (by simp [e])
      have hd := AllD.head (ha.left)
      have hge : 10 ^ xs.length ≤ val (x :: xs) := val_ge hd hx
      have hp := pow_pos10 xs.length
      rw [decDigits, dif_neg (by omega)]
      rw [show (val (x :: xs) * 10 + (c.toNat - 48)) / 10 = val (x :: xs) by omega, show (val (x :: xs) * 10 + (c.toNat - 48)) % 10 = c.toNat - 48 by omega]
      rw [ih (x :: xs) (by simp at hl ⊢; omega) ha.left (by simp) (by simpa using hx), ofNat_digit hc]

theorem dec_of {l : List UInt8} (h : AllD l) (h0 : l ≠ []) (hh : l.head? ≠ some 48) : l = decDigits (val l) := (dec_val _ l rfl h h0 hh).symm

theorem dec_facts (u : Nat) : AllD (decDigits u) ∧ val (decDigits u) = u ∧ decDigits u ≠ [] ∧ (u ≠ 0 → (decDigits u).head? ≠ some 48) := by
  induction u using Nat.strongRecOn with
  | _ u ih =>
    by_cases h : u < 10
    · rw [decDigits, dif_pos h]
      have e := digit_toNat h
      refine ⟨AllD.one (by omega), by rw [val_one]; omega, by simp, fun h0 => ?_⟩
      simp only [List.head?_cons, ne_eq, Option.some.injEq]
      intro e2
      rw [e2] at e
      simp at e
      omega
    · obtain ⟨h1, h2, h3, h4⟩ := ih (u / 10) (by omega)
      have e := digit_toNat (show u % 10 < 10 by omega)
      rw [decDigits, dif_neg h]
      refine ⟨h1.append (AllD.one (by omega)), by rw [val_snoc, h2, e]; omega, by simp, fun _ => ?_⟩
      have h5 := h4 (by omega)
      cases hd : decDigits (u / 10) with
      | nil => exact absurd hd h3
      | cons x xs =>
        rw [hd] at h5
        simpa using h5

theorem dec_all (u : Nat) : AllD (decDigits u) := (dec_facts u).1
theorem val_dec (u : Nat) : val (decDigits u) = u := (dec_facts u).2.1
theorem dec_ne (u : Nat) : decDigits u ≠ [] := (dec_facts u).2.2.1
theorem dec_head {u : Nat} (h : u ≠ 0) : (decDigits u).head? ≠ some 48 := (dec_facts u).2.2.2 h

/-- Without its leading zeros. -/
def strip (l : List UInt8) : List UInt8 := l.dropWhile (· == 48)

theorem strip_val (l : List UInt8) : val (strip l) = val l := by
  induction l with
  | nil => rfl
  | cons c l ih =>
    unfold strip at ih ⊢
    by_cases h : c = 48
    · subst h
      simp only [List.dropWhile_cons, beq_self_eq_true, if_true]
      rw [ih, val_cons]
      simp
    · have : (c == 48) = false := by simp [h]
      simp only [List.dropWhile_cons, this, Bool.false_eq_true, if_false]

theorem strip_all {l : List UInt8} (h : AllD l) : AllD (strip l) := fun x hx => h x (List.dropWhile_sublist _ |>.mem hx)
theorem strip_head (l : List UInt8) : (strip l).head? ≠ some 48 := by
  induction l with
  | nil => simp [strip]
  | cons c l ih =>
    unfold strip at ih ⊢
    by_cases h : c = 48
    · subst h
      simpa only [List.dropWhile_cons, beq_self_eq_true, if_true] using ih
    · have : (c == 48) = false := by simp [h]
      simp only [List.dropWhile_cons, this, Bool.false_eq_true, if_false]
      simpa using h
theorem strip_dec {l : List UInt8} (h : AllD l) (h0 : val l ≠ 0) : strip l = decDigits (val l) := by
  have h1 := strip_val l
  rw [← h1]
  refine dec_of (strip_all h) (fun e => ?_) (strip_head l)
  rw [e] at h1
  exact h0 h1.symm
theorem strip_len (l : List UInt8) : (strip l).length ≤ l.length := (List.dropWhile_sublist _).length_le

/-! ### Integers as text -/

/-- The magnitude's text: without a leading minus sign. -/
def mag (l : List UInt8) : List UInt8 := if l.head? = some 45 then l.tail else l
/-- Is it negative? -/
def neg (l : List UInt8) : Bool := l.head? == some 45
/-- The text of a number of that sign and magnitude. -/
def txt (b : Bool) (N : Nat) : List UInt8 := if b then 45 :: decDigits N else decDigits N
/-- '-?[1-9][0-9]*' -/
def Canon (l : List UInt8) : Prop := mag l ≠ [] ∧ (mag l).head? ≠ some 48 ∧ AllD (mag l)

theorem mag_len (l : List UInt8) : (mag l).length ≤ l.length := by unfold mag; split <;> simp
theorem neg_iff (l : List UInt8) : neg l = true ↔ l.head? = some 45 := by simp [neg]
theorem canon_txt {l : List UInt8} (h : Canon l) : l = txt (neg l) (val (mag l)) := by
  obtain ⟨h0, h1, h2⟩ := h
  unfold txt
  rw [← dec_of h2 h0 h1]
  unfold neg mag
  cases l with
  | nil => rfl
  | cons c r =>
    by_cases hc : c = 45
    · subst hc; simp
    · simp [hc]
theorem dec_head45 (u : Nat) : (decDigits u).head? ≠ some 45 := by
  intro e
  have h := dec_all u
  cases hd : decDigits u with
  | nil => rw [hd] at e; cases e
  | cons c r =>
    rw [hd] at e h
    simp at e
    subst e
    have := h.head
    simp at this
theorem txt_mag (b : Bool) (N : Nat) : mag (txt b N) = decDigits N := by
  unfold txt mag
  cases b
  · simp only [Bool.false_eq_true, if_false]; rw [if_neg (dec_head45 N)]
  · simp
theorem txt_neg (b : Bool) (N : Nat) : neg (txt b N) = b := by
  unfold txt neg
  cases b
  · simp only [Bool.false_eq_true, if_false]
    have := dec_head45 N
    simpa using this
  · simp
theorem txt_canon (b : Bool) {N : Nat} (h : N ≠ 0) : Canon (txt b N) := by
  unfold Canon
  rw [txt_mag]
  exact ⟨dec_ne N, dec_head h, dec_all N⟩
theorem canon_pos {l : List UInt8} (h : Canon l) : 0 < val (mag l) := by
  obtain ⟨h0, h1, h2⟩ := h
  cases hm : mag l with
  | nil => exact absurd hm h0
  | cons c r =>
    rw [hm] at h1 h2
    exact Nat.lt_of_lt_of_le (pow_pos10 _) (val_ge h2.head (by simpa using h1))

/-- The sum: n's sign stays, the magnitude grows or shrinks. -/
def sum (l : List UInt8) (k : Int) : List UInt8 := txt (neg l) (if decide (k < 0) = neg l then val (mag l) + k.natAbs else val (mag l) - k.natAbs)

end Go.Proofs.Qxb6602256aDoor.Pl
