/-
  zzBytes, zzCanonicalDigits, zzBeyondInt64.
-/
import Derived.Test.Qxb6602256aDoorWalksF
import Derived.Test.Qxb6602256aDoorPlainS
import Derived.Test.Qxb6602256aDoorWalksJ
namespace Go.Proofs.Qxb6602256aDoor
open Go.RowKit

set_option maxHeartbeats 1000000 in
theorem bytes22_any (a : Bool) (s : ByteArray) (x : Int) (t : ByteArray) (w : World) (hs : s.size ≤ maxLen) (ht : t.size ≤ maxLen) :
    Calls Tryd.prog 22 #[.bool a, .string s, .int .i64 x, .string t] w fun e w' => e = .returned (.bool (decide (s.size + t.size ≤ 1048576))) ∧ w' = w := by
  unfold maxLen at hs ht
  by_cases h : s.size ≤ 1048576
  · by_cases h2 : t.size ≤ 1048576
    · by_cases h3 : s.size + t.size ≤ 1048576
      · go_enter Tryd.func22, Tryd.ntmps22
        go_wp2
        go_ret
        exact ⟨ret_bool (by simp [h3]), rfl⟩
      · have h3' : (s.size : Int) + (t.size : Int) > 1048576 := by omega
        go_enter Tryd.func22, Tryd.ntmps22
        go_wp2
        go_ret
        exact ⟨ret_bool (by simp; omega), rfl⟩
    · go_enter Tryd.func22, Tryd.ntmps22
      go_wp2
      go_ret
      exact ⟨ret_bool (by simp; omega), rfl⟩
  · go_enter Tryd.func22, Tryd.ntmps22
    go_wp2
    go_ret
    exact ⟨ret_bool (by simp; omega), rfl⟩


namespace Pl
/-- Digits of one length: the order of the texts is that of the numbers. -/
theorem less_val : ∀ (a b : List UInt8), AllD a → AllD b → a.length = b.length → Op.bytesLess a b = decide (val a < val b)
  | [], [], _, _, _ => by simp [Op.bytesLess, val]
  | [], _ :: _, _, _, h => by simp at h
  | _ :: _, [], _, _, h => by simp at h
  | c :: x, d :: y, ha, hb, h => by
    have hl : x.length = y.length := by simpa using h
    have ih := less_val x y ha.tail hb.tail hl
    have hx := val_lt ha.tail
    have hy := val_lt hb.tail
    have hc := ha.head
    have hd := hb.head
    rw [Op.bytesLess, ih, val_cons, val_cons, ← hl]
    rw [← hl] at hy
    rw [Bool.eq_iff_iff]
    simp only [Bool.or_eq_true, Bool.and_eq_true, decide_eq_true_eq, beq_iff_eq, UInt8.lt_iff_toNat_lt]
    rcases Nat.lt_trichotomy c.toNat d.toNat with e | e | e
    · have h1 : (c.toNat - 48 + 1) * 10 ^ x.length ≤ (d.toNat - 48) * 10 ^ x.length := Nat.mul_le_mul_right _ (by omega)
      rw [Nat.add_mul, Nat.one_mul] at h1
      constructor
      · intro _; omega
      · intro _; exact Or.inl e
    · have e2 : c = d := UInt8.toNat_inj.1 e
      subst e2
      constructor
      · rintro (h1 | ⟨_, h1⟩)
        · omega
        · omega
      · intro h1; exact Or.inr ⟨rfl, by omega⟩
    · have h1 : (d.toNat - 48 + 1) * 10 ^ x.length ≤ (c.toNat - 48) * 10 ^ x.length := Nat.mul_le_mul_right _ (by omega)
      rw [Nat.add_mul, Nat.one_mul] at h1
      constructor
      · rintro (h2 | ⟨h2, _⟩)
        · omega
        · subst h2; omega
      · intro h2; omega
theorem more_val {a b : List UInt8} (ha : AllD a) (hb : AllD b) (h : a.length = b.length) (hm : (!Op.bytesLess a b && !a == b) = true) : val b < val a := by
  rw [less_val a b ha hb h] at hm
  simp only [Bool.and_eq_true, Bool.not_eq_true', decide_eq_false_iff_not, beq_eq_false_iff_ne, ne_eq] at hm
  rcases Nat.lt_or_eq_of_le (Nat.le_of_not_lt hm.1) with h1 | h1
  · exact h1
  · exfalso
    apply hm.2
    have : ∀ (a b : List UInt8), AllD a → AllD b → a.length = b.length → val a = val b → a = b := by
      intro a
      induction a with
      | nil => intro b _ _ hl _; cases b with
        | nil => rfl
        | cons d y => simp at hl
      | cons c x ih =>
        intro b ha hb hl hv
        cases b with
        | nil => simp at hl
        | cons d y =>
          have hl' : x.length = y.length := by simpa using hl
          have hx := val_lt ha.tail
          have hy := val_lt hb.tail
          have hc := ha.head
          have hd := hb.head
          rw [val_cons, val_cons, ← hl'] at hv
          rw [← hl'] at hy
          have e : c.toNat - 48 = d.toNat - 48 := by
            rcases Nat.lt_trichotomy (c.toNat - 48) (d.toNat - 48) with e | e | e
            · have h1 : (c.toNat - 48 + 1) * 10 ^ x.length ≤ (d.toNat - 48) * 10 ^ x.length := Nat.mul_le_mul_right _ (by omega)
              rw [Nat.add_mul, Nat.one_mul] at h1
              omega
            · exact e
            · have h1 : (d.toNat - 48 + 1) * 10 ^ x.length ≤ (c.toNat - 48) * 10 ^ x.length := Nat.mul_le_mul_right _ (by omega)
              rw [Nat.add_mul, Nat.one_mul] at h1
              omega
          have e2 : c = d := UInt8.toNat_inj.1 (by omega)
          subst e2
          rw [ih y ha.tail hb.tail hl' (by omega)]
    exact this a b ha hb h h1.symm
/-- The integer that a canonical text stands for. -/
def ival (l : List UInt8) : Int := if neg l = true then -(val (mag l) : Int) else (val (mag l) : Int)
theorem itxt_ival {l : List UInt8} (h : Canon l) : l = itxt (ival l) := by
  have h1 := canon_txt h
  have h2 := canon_pos h
  unfold ival itxt
  cases hn : neg l with
  | true =>
    rw [hn] at h1
    have e1 : decide (-(val (mag l) : Int) < 0) = true := by simp; omega
    have e2 : (-(val (mag l) : Int)).natAbs = val (mag l) := by omega
    rw [if_pos rfl, e1, e2]
    exact h1
  | false =>
    rw [hn] at h1
    have e1 : decide ((val (mag l) : Int) < 0) = false := by simp
    rw [if_neg (by decide), e1, Int.natAbs_natCast]
    exact h1
theorem big_of_long {l : List UInt8} (h : Canon l) (hl : 19 < (mag l).length) : fits (ival l) = false := by
  cases hm : mag l with
  | nil => rw [hm] at hl; simp at hl
  | cons c r =>
    obtain ⟨_, h2, h3⟩ := h
    rw [hm] at h2 h3 hl
    have := val_ge (l := r) h3.head (by simpa using h2)
    have h4 : 10 ^ 19 ≤ 10 ^ r.length := Nat.pow_le_pow_right (by decide) (by simp at hl; omega)
    rw [Bool.eq_false_iff, ne_eq, fits_iff]
    unfold ival
    rw [hm]
    split <;> omega
end Pl

/-- It answers some Boolean; where that is true, Q; the world is as it was. -/
def Told (Q : Prop) (w : World) (e : Ending) (w' : World) : Prop := ∃ b, e = .returned (.bool b) ∧ (b = true → Q) ∧ w' = w
theorem Told.no {Q : Prop} {w : World} : Told Q w (.returned (.bool false)) w := ⟨false, rfl, fun h => Bool.noConfusion h, rfl⟩
theorem Told.of {Q : Prop} {w : World} {b : Bool} (h : b = true → Q) : Told Q w (.returned (.bool b)) w := ⟨b, rfl, h, rfl⟩
theorem allA : Pl.AllD [57, 50, 50, 51, 51, 55, 50, 48, 51, 54, 56, 53, 52, 55, 55, 53, 56, 48, 56] := by unfold Pl.AllD; decide
theorem allB : Pl.AllD [57, 50, 50, 51, 51, 55, 50, 48, 51, 54, 56, 53, 52, 55, 55, 53, 56, 48, 55] := by unfold Pl.AllD; decide

set_option maxRecDepth 100000 in
set_option maxHeartbeats 1000000 in
theorem beyond_any (s : ByteArray) (w : World) (hs : s.size ≤ maxLen) :
    Calls Tryd.prog 24 #[.string s] w fun e w' => Told (∃ E, s.data.toList = Pl.itxt E ∧ Pl.fits E = false) w e w' := by
  cases hc : canonB s.data.toList with
  | false =>
    go_enter Tryd.func24, Tryd.ntmps24
    go_wp2_with (go_at_call 9; refine (canonInt_any _ _ hs).mono ?_; rintro e w' ⟨rfl, rfl⟩; rw [hc])
    go_ret
    exact Told.no
  | true =>
    have hC := (canonB_iff _).1 hc
    have HI : Hid (s.data.toList = Pl.itxt (Pl.ival s.data.toList)) := Pl.itxt_ival hC
    have HL := (show Hid _ from Pl.big_of_long hC)
    have HD : Hid (Pl.AllD (Pl.mag s.data.toList)) := hC.2.2
    have h0 : 0 < s.size := by
      rcases Nat.eq_zero_or_pos s.size with h | h
      · have e : s.data.toList = [] := List.eq_nil_of_length_eq_zero (by rw [← size_list]; exact h)
        exact absurd (by rw [e]; rfl) hC.1
      · exact h
    have hng := neg_at h0
    obtain ⟨b, hb⟩ : ∃ b, Pl.neg s.data.toList = b := ⟨_, rfl⟩
    have HV : Hid (Pl.ival s.data.toList = if b = true then -(Pl.val (Pl.mag s.data.toList) : Int) else (Pl.val (Pl.mag s.data.toList) : Int)) := by
      show _ = _
      rw [← hb]; rfl
    rw [hb] at hng
    have hCm := fun W => mag_any s W
    have hCc := fun W => canonInt_any s W hs
    rw [hc] at hCc
    clear hC hc hb
    obtain ⟨m, hm⟩ : ∃ m, Pl.mag s.data.toList = m := ⟨_, rfl⟩
    rw [hm] at hCm HL HD HV
    have hml : m.length ≤ 9223372036854775807 := by
      have h1 := Pl.mag_len s.data.toList
      rw [hm, ← size_list] at h1
      have h2 : s.size ≤ 9223372036854775807 := hs
      omega
    clear hm
    by_cases h19 : m.length = 19
    · cases b with
      | true =>
        go_enter Tryd.func24, Tryd.ntmps24
        go_wp2_with (first
          | (go_at_call 9; refine (hCc _).mono ?_; rintro e w' ⟨rfl, rfl⟩)
          | (go_at_call 11; refine (hCm _).mono ?_; rintro e w' ⟨rfl, rfl⟩))
        go_ret
        refine Told.of fun h => ⟨_, HI.out, ?_⟩
        have := Pl.more_val HD.out allA (by rw [h19]; rfl) h
        have hv : Pl.ival s.data.toList = -(Pl.val m : Int) := by have := HV.out; simpa using this
        rw [hv, Bool.eq_false_iff, ne_eq, Pl.fits_iff]
        rw [show Pl.val [57, 50, 50, 51, 51, 55, 50, 48, 51, 54, 56, 53, 52, 55, 55, 53, 56, 48, 56] = 9223372036854775808 by decide] at this
        omega
      | false =>
        go_enter Tryd.func24, Tryd.ntmps24
        go_wp2_with (first
          | (go_at_call 9; refine (hCc _).mono ?_; rintro e w' ⟨rfl, rfl⟩)
          | (go_at_call 11; refine (hCm _).mono ?_; rintro e w' ⟨rfl, rfl⟩))
        go_ret
        refine Told.of fun h => ⟨_, HI.out, ?_⟩
        have := Pl.more_val HD.out allB (by rw [h19]; rfl) h
        have hv : Pl.ival s.data.toList = (Pl.val m : Int) := by have := HV.out; simpa using this
        rw [hv, Bool.eq_false_iff, ne_eq, Pl.fits_iff]
        rw [show Pl.val [57, 50, 50, 51, 51, 55, 50, 48, 51, 54, 56, 53, 52, 55, 55, 53, 56, 48, 55] = 9223372036854775807 by decide] at this
        omega
    · have b19 : ((m.length : Int) != 19) = true := by rw [bne_iff_ne]; omega
      go_enter Tryd.func24, Tryd.ntmps24
      go_wp2_with (first
        | (go_at_call 9; refine (hCc _).mono ?_; rintro e w' ⟨rfl, rfl⟩)
        | (go_at_call 11; refine (hCm _).mono ?_; rintro e w' ⟨rfl, rfl⟩))
      go_ret
      refine Told.of fun h => ⟨_, HI.out, HL.out ?_⟩
      simp at h
      omega

set_option maxRecDepth 100000 in
set_option maxHeartbeats 1000000 in
theorem canonD_any (s : ByteArray) (w : World) (hs : s.size ≤ maxLen) :
    Calls Tryd.prog 23 #[.string s] w fun e w' => Told (Pl.Digs s.data.toList) w e w' := by
  have hs : s.size ≤ 9223372036854775807 := hs
  by_cases h0 : 0 < s.size
  case neg =>
    have e0 : s.size = 0 := by omega
    go_enter Tryd.func23, Tryd.ntmps23
    go_wp2
    go_ret
    exact Told.no
  case pos =>
  have e0 : ((s.size : Int) == 0) = false := by rw [beq_eq_false_iff_ne]; omega
  by_cases hh : s[0] = 48
  · have b48 : ((s[0].toNat : Int) == 48) = true := beqv_yes (n := 48) hh
    clear hh
    go_enter Tryd.func23, Tryd.ntmps23
    go_wp2
    go_ret
    exact Told.no
  have b48 : ((s[0].toNat : Int) == 48) = false := beqv_no (n := 48) hh
  have HH : Hid (s[0] ≠ 48) := hh
  clear hh
  obtain ⟨m, hm, hme⟩ : ∃ m : Nat, m = s.size - 1 ∧ (s.size : Int) - 1 = (m : Int) := ⟨s.size - 1, rfl, by omega⟩
  have hms : m < s.size := by omega
  have HM : Hid (m = s.size - 1) := hm
  clear hm
  by_cases hl : s[m] = 48
  · have c48 : ((s[m].toNat : Int) == 48) = true := beqv_yes (n := 48) hl
    clear hl
    go_enter Tryd.func23, Tryd.ntmps23
    go_wp2
    go_ret
    exact Told.no
  have c48 : ((s[m].toNat : Int) == 48) = false := beqv_no (n := 48) hl
  have HL : Hid (s[m] ≠ 48) := hl
  clear hl
  go_enter Tryd.func23, Tryd.ntmps23
  go_wp2
  go_loop [3] (fun i => ∃ k : Nat, k ≤ s.size ∧ i = .int .i64 k ∧ Hid (∀ j (h : j < s.size), j < k → 48 ≤ s[j].toNat ∧ s[j].toNat ≤ 57)) (fun i => s.size - (intOf i).toNat)
  case atStart => exact ⟨0, Nat.zero_le _, rfl, fun j _ h => absurd h (by omega)⟩
  case round =>
    obtain ⟨k, hk, rfl, HR⟩ := hrel
    by_cases hlt : k < s.size
    · obtain ⟨bd, hbd⟩ : ∃ bd : Bool, (decide ((48 : Int) ≤ (s[k].toNat : Int)) && decide ((s[k].toNat : Int) ≤ 57)) = bd := ⟨_, rfl⟩
      have HBD : Hid _ := hbd
      have hCd := fun W => isDigit_any (s[k].toNat : Int) W
      rw [hbd] at hCd
      clear hbd
      cases bd with
      | true =>
        have HN : Hid (∀ j (h : j < s.size), j < k + 1 → 48 ≤ s[j].toNat ∧ s[j].toNat ≤ 57) := fun j h hj => by
          by_cases e : j = k
          · subst e; have := HBD.out; simp at this; omega
          · exact HR.out j h (by omega)
        clear HBD
        go_wp2_with (go_at_call 26; refine (hCd _).mono ?_; rintro e w' ⟨rfl, rfl⟩)
        go_round
        case rel => exact ⟨k + 1, by omega, by go_num, HN⟩
        case measure => simp [intOf]; omega
      | false =>
        clear HBD
        go_wp2_with (go_at_call 26; refine (hCd _).mono ?_; rintro e w' ⟨rfl, rfl⟩)
        go_ret
        exact Told.no
    · have hD : Hid (Pl.Digs s.data.toList) := by
        refine ⟨fun c hc => ?_, ?_, ?_, ?_⟩
        · obtain ⟨i, hi, e⟩ := List.getElem_of_mem hc
          rw [← size_list] at hi
          have := HR.out i hi (by omega)
          rw [← e]
          exact this
        · intro e
          have := size_list s
          rw [e, List.length_nil] at this
          omega
        · rw [head_list s h0]
          exact fun e => HH.out (Option.some.inj e)
        · rw [List.getLast?_eq_getElem?, ← size_list, ← HM.out, List.getElem?_eq_getElem (by rw [← size_list]; exact hms)]
          exact fun e => HL.out (Option.some.inj e)
      go_wp2
      go_ret
      exact Told.of fun _ => hD.out
end Go.Proofs.Qxb6602256aDoor
