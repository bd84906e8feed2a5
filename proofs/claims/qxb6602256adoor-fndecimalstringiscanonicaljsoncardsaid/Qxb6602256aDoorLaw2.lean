/-
  FnAddIntegerUndoneByNegation: the plain law and the walk.
-/
import Derived.Test.Qxb6602256aDoorLaw1
namespace Go.Proofs.Qxb6602256aDoor
open Go.RowKit

namespace Pl
theorem dec_len {N n : Nat} (h0 : N ≠ 0) (h : N < 10 ^ n) : (Lib.decDigits N).length ≤ n := by
  have h1 := dec_all N
  have h2 := dec_head h0
  have h3 := val_dec N
  cases hd : Lib.decDigits N with
  | nil => simp
  | cons c r =>
    rw [hd] at h1 h2 h3
    have h4 := val_ge (l := r) h1.head (by simpa using h2)
    rw [h3] at h4
    simp only [List.length_cons]
    rcases Nat.lt_or_ge r.length n with h5 | h5
    · exact h5
    · have := Nat.pow_le_pow_right (n := 10) (by decide) h5
      omega
/-- The number that 'sum' writes. -/
def sumN (l : List UInt8) (k : Int) : Nat := if decide (k < 0) = neg l then val (mag l) + k.natAbs else val (mag l) - k.natAbs
theorem sum_txt (l : List UInt8) (k : Int) : sum l k = txt (neg l) (sumN l k) := rfl
theorem sumN_pos {l : List UInt8} {k : Int} (hk : k.natAbs < val (mag l)) : sumN l k ≠ 0 := by
  unfold sumN
  split <;> omega
theorem sum_mag (l : List UInt8) (k : Int) : mag (sum l k) = Lib.decDigits (sumN l k) := by rw [sum_txt, txt_mag]
theorem sum_neg (l : List UInt8) (k : Int) : neg (sum l k) = neg l := by rw [sum_txt, txt_neg]
theorem sum_canon {l : List UInt8} {k : Int} (hk : k.natAbs < val (mag l)) : Canon (sum l k) := by rw [sum_txt]; exact txt_canon _ (sumN_pos hk)
theorem sum_len {l : List UInt8} {k : Int} (hC : Canon l) (hk : k.natAbs < val (mag l)) : (sum l k).length ≤ l.length + 2 := by
  have h1 := val_lt hC.2.2
  have h2 : sumN l k < 10 ^ ((mag l).length + 1) := by
    rw [Nat.pow_succ]
    unfold sumN
    split <;> omega
  have h3 := dec_len (sumN_pos hk) h2
  have h4 := mag_len l
  rw [sum_txt, txt]
  split <;> simp <;> omega
theorem sum_undo {l : List UInt8} {k : Int} (hC : Canon l) (hk : k.natAbs < val (mag l)) (hk2 : k.natAbs < sumN l k) : sum (sum l k) (-k) = l := by
  have e : sumN (sum l k) (-k) = val (mag l) := by
    unfold sumN at hk2 ⊢
    rw [sum_neg, sum_mag, val_dec, Int.natAbs_neg]
    unfold sumN
    by_cases h0 : k = 0
    · subst h0
      simp
    · by_cases hn : k < 0
      · have h1 : decide (k < 0) = true := by simpa using hn
        have h2 : decide (-k < 0) = false := by simp; omega
        rw [h1, h2]
        rw [h1] at hk2
        cases neg l
        · simp only [Bool.true_eq_false, if_false, if_true] at hk2 ⊢
          omega
        · simp only [Bool.false_eq_true, if_false, if_true]
          omega
      · have h1 : decide (k < 0) = false := by simpa using hn
        have h2 : decide (-k < 0) = true := by simp; omega
        rw [h1, h2]
        rw [h1] at hk2
        cases neg l
        · simp only [Bool.true_eq_false, if_false, if_true]
          omega
        · simp only [Bool.false_eq_true, if_false, if_true] at hk2 ⊢
          omega
  rw [sum_txt (sum l k), sum_neg, e]
  exact (canon_txt hC).symm
end Pl

theorem canonInt_list (l : List UInt8) (w : World) (hs : l.length ≤ 2097152) (hC : Pl.Canon l) :
    Calls Tryd.prog 9 #[.string ⟨l.toArray⟩] w fun e w' => e = .returned (.bool true) ∧ w' = w := by
  refine (canonInt_any ⟨l.toArray⟩ w (by rw [size_mk]; unfold maxLen; omega)).mono ?_
  rintro e w' ⟨rfl, rfl⟩
  exact ⟨ret_bool ((canonB_iff _).2 hC), rfl⟩
theorem addZ_list (l : List UInt8) (k : Int) (w : World) (hs : l.length ≤ 2097152) (hc : Pl.Canon l) (h0 : -9223372036854775808 ≤ k) (h1 : k ≤ 9223372036854775807) (hk : k.natAbs < Pl.val (Pl.mag l)) :
    Calls Tryd.prog 13 #[.string ⟨l.toArray⟩, .int .i64 k] w fun e w' => e = .returned (.string ⟨(Pl.sum l k).toArray⟩) ∧ Below w.heap.size w w' := addZ_any ⟨l.toArray⟩ k w (by rw [size_mk]; exact hs) hc h0 h1 hk
theorem neg_byte {s : ByteArray} (h : 0 < s.size) : ((s[0].toNat : Int) == 45) = Pl.neg s.data.toList := by
  rw [Bool.eq_iff_iff, Pl.neg_iff, head_list s h]
  constructor
  · intro h
    have h3 : s[0] = 45 := beq_byte.1 (by simpa using h)
    rw [h3]
  · intro h; rw [Option.some.inj h]; rfl

set_option maxRecDepth 100000 in
set_option maxHeartbeats 1000000 in
theorem law2 (s : ByteArray) (k : Int) (w : World) (hs : s.size ≤ maxLen) (h0 : -9223372036854775808 ≤ k) (h1 : k ≤ 9223372036854775807) :
    Calls Tryd.prog 4 #[.string s, .int .i64 k] w fun e w' => e = .returned (.bool true) ∧ Below w.heap.size w w' := by
  by_cases hsz : s.size ≤ 1048576
  · have hszd : decide (s.size ≤ 1048576) = true := by simpa using hsz
    by_cases hmin : k = -9223372036854775808
    · subst hmin
      go_enter Tryd.func4, Tryd.ntmps4
      go_wp2_with (first
        | (go_at_call 15; refine (bytes15_any _ _ _ hs).mono ?_; rintro e w' ⟨rfl, rfl⟩; rw [hszd]))
      go_ret
      exact ⟨rfl, Below.refl _ _⟩
    · have hmin' : (k == -9223372036854775808) = false := by simpa using hmin
      cases hcan : canonB s.data.toList with
      | false =>
        go_enter Tryd.func4, Tryd.ntmps4
        go_wp2_with (first
          | (go_at_call 15; refine (bytes15_any _ _ _ hs).mono ?_; rintro e w' ⟨rfl, rfl⟩; rw [hszd])
          | (go_at_call 9; refine (canonInt_any _ _ hs).mono ?_; rintro e w' ⟨rfl, rfl⟩; rw [hcan]))
        go_ret
        exact ⟨rfl, Below.refl _ _⟩
      | true =>
        have hC := (canonB_iff _).1 hcan
        have hs0 : 0 < s.size := by
          rw [size_list]
          have h1 := Pl.mag_len s.data.toList
          have h2 := List.length_pos_iff.2 hC.1
          omega
        have hbn := neg_byte hs0
        obtain ⟨B, hB⟩ : ∃ B : Bool, Pl.neg s.data.toList = B := ⟨_, rfl⟩
        obtain ⟨m, hm⟩ : ∃ m : List UInt8, Pl.mag s.data.toList = m := ⟨_, rfl⟩
        obtain ⟨K, hK⟩ : ∃ K : Nat, k.natAbs = K := ⟨_, rfl⟩
        obtain ⟨R, hR⟩ : ∃ R : List UInt8, Pl.sum s.data.toList k = R := ⟨_, rfl⟩
        obtain ⟨N, hN⟩ : ∃ N : Nat, Pl.sumN s.data.toList k = N := ⟨_, rfl⟩
        have hKb : K ≤ 9223372036854775808 := by omega
        have hml : m.length ≤ 2097152 := by have := Pl.mag_len s.data.toList; rw [hm, ← size_list] at this; omega
        have hmd : Pl.AllD m := by rw [← hm]; exact hC.2.2
        have hex := exceeds_iff hmd (by rw [← hm]; exact hC.1) (by rw [← hm]; exact hC.2.1) hKb
        have hkm : K < Pl.val m → k.natAbs < Pl.val (Pl.mag s.data.toList) := fun h => by rw [hm, hK]; exact h
        have HM : Hid (Pl.mag s.data.toList = m) := hm
        have HK : Hid (k.natAbs = K) := hK
        have HEX : Hid ((decide (19 < m.length) || decide (K < Pl.val m)) = decide (K < Pl.val m)) := hex
        have HC : Hid (canonB s.data.toList = true) := hcan
        have HR : Hid (Pl.sum s.data.toList k = R) := hR
        rw [hB] at hbn
        by_cases hlt : K < Pl.val m
        · have hltd : decide (K < Pl.val m) = true := by simpa using hlt
          have hkk := hkm hlt
          have hRC : Pl.Canon R := by rw [← hR]; exact Pl.sum_canon hkk
          have hRl : R.length ≤ 2097152 := by have := Pl.sum_len hC hkk; rw [hR, ← size_list] at this; omega
          have hRm : Pl.mag R = Lib.decDigits N := by rw [← hR, Pl.sum_mag, hN]
          have hRn : Pl.neg R = B := by rw [← hR, Pl.sum_neg, hB]
          have hN0 : N ≠ 0 := by rw [← hN]; exact Pl.sumN_pos hkk
          have hex2 := exceeds_iff (Pl.dec_all N) (Pl.dec_ne N) (Pl.dec_head hN0) hKb
          rw [Pl.val_dec] at hex2
          have hDl : (Lib.decDigits N).length ≤ 2097152 := by have := Pl.mag_len R; rw [hRm] at this; omega
          have hundo : K < N → Pl.sum R (-k) = s.data.toList := fun h => by rw [← hR]; exact Pl.sum_undo hC hkk (by rw [hN, hK]; exact h)
          have hk2 : K < N → (-k).natAbs < Pl.val (Pl.mag R) := fun h => by rw [hRm, Pl.val_dec, Int.natAbs_neg, hK]; exact h
          have HRm : Hid (Pl.mag R = Lib.decDigits N) := hRm
          have HEX2 : Hid ((decide (19 < (Lib.decDigits N).length) || decide (K < N)) = decide (K < N)) := hex2
          have HU : Hid (K < N → Pl.sum R (-k) = s.data.toList) := hundo
          have HK2 : Hid (K < N → (-k).natAbs < Pl.val (Pl.mag R)) := hk2
          have HB : Hid (((s[0].toNat : Int) == 45) = B) := hbn
          have hR0 : 0 < (⟨R.toArray⟩ : ByteArray).size := by
            rw [size_mk]
            have h1 := Pl.mag_len R
            have h2 := List.length_pos_iff.2 hRC.1
            omega
          have hRb : (((⟨R.toArray⟩ : ByteArray)[0].toNat : Int) == 45) = B := by rw [neg_byte hR0]; exact hRn
          clear hm hK hcan hex hR hN hB hRm hRn hex2 hundo hk2 hkm
          go_enter Tryd.func4, Tryd.ntmps4
          go_wp2_with (first
            | (go_at_call 15; refine (bytes15_any _ _ _ hs).mono ?_; rintro e w' ⟨rfl, rfl⟩; rw [hszd])
            | (go_at_call 9; refine (canonInt_any _ _ hs).mono ?_; rintro e w' ⟨rfl, rfl⟩; rw [HC.out])
            | (go_at_call 11; refine (mag_any _ _).mono ?_; rintro e w' ⟨rfl, rfl⟩; rw [HM.out])
            | (go_at_call 12; refine (abs_any _ _ h0 h1).mono ?_; rintro e w' ⟨rfl, rfl⟩; rw [HK.out])
            | (go_at_call 10; refine (exceeds_list _ _ _ hmd hml).mono ?_; rintro e w' ⟨rfl, rfl⟩; rw [HEX.out, hltd]))
          refine (model_any _ _ _ hsz hC h0 h1 hkk).mono ?_
          rintro e w1 ⟨rfl, hb1⟩
          rw [HR.out]
          by_cases hlt2 : K < N
          · have hltd2 : decide (K < N) = true := by simpa using hlt2
            go_wp2_with (first
              | (go_at_call 11; refine (mag_list _ _).mono ?_; rintro e w2 ⟨rfl, rfl⟩; rw [HRm.out])
              | (go_at_call 10; refine (exceeds_list _ _ _ (Pl.dec_all N) hDl).mono ?_; rintro e w2 ⟨rfl, rfl⟩; rw [Pl.val_dec, HEX2.out, hltd2]))
            refine (addZ_any _ _ _ (by omega) hC h0 h1 hkk).mono ?_
            rintro e w3 ⟨rfl, hb3⟩
            rw [HR.out]
            go_wp2_with (first
              | (go_at_call 9; refine (canonInt_list _ _ hRl hRC).mono ?_; rintro e w4 ⟨rfl, rfl⟩))
            have hsb := HB.out
            have hRp : 0 < R.length := by rw [size_mk] at hR0; exact hR0
            go_region
            go_wp2_with fail
            refine (addZ_list R (-k) _ hRl hRC (by omega) (by omega) (HK2.out hlt2)).mono ?_
            rintro e w5 ⟨rfl, hb5⟩
            rw [HU.out hlt2, mk_list]
            go_wp2
            go_ret
            have hb4 : Below w4.heap.size w4 w5 := ((Below.refl w4.heap.size w4).drew).trans hb5
            exact ⟨ret_bool (by simp), below_then hb1 (below_then hb3 hb4)⟩
          · have hltd2 : decide (K < N) = false := by simp; omega
            go_wp2_with (first
              | (go_at_call 11; refine (mag_list _ _).mono ?_; rintro e w2 ⟨rfl, rfl⟩; rw [HRm.out])
              | (go_at_call 10; refine (exceeds_list _ _ _ (Pl.dec_all N) hDl).mono ?_; rintro e w2 ⟨rfl, rfl⟩; rw [Pl.val_dec, HEX2.out, hltd2]))
            go_ret
            exact ⟨rfl, hb1⟩
        · have hltd : decide (K < Pl.val m) = false := by simp; omega
          clear hm hK hcan hex hR hN hB hkm
          go_enter Tryd.func4, Tryd.ntmps4
          go_wp2_with (first
            | (go_at_call 15; refine (bytes15_any _ _ _ hs).mono ?_; rintro e w' ⟨rfl, rfl⟩; rw [hszd])
            | (go_at_call 9; refine (canonInt_any _ _ hs).mono ?_; rintro e w' ⟨rfl, rfl⟩; rw [HC.out])
            | (go_at_call 11; refine (mag_any _ _).mono ?_; rintro e w' ⟨rfl, rfl⟩; rw [HM.out])
            | (go_at_call 12; refine (abs_any _ _ h0 h1).mono ?_; rintro e w' ⟨rfl, rfl⟩; rw [HK.out])
            | (go_at_call 10; refine (exceeds_list _ _ _ hmd hml).mono ?_; rintro e w' ⟨rfl, rfl⟩; rw [HEX.out, hltd]))
          go_ret
          exact ⟨rfl, Below.refl _ _⟩
  · have hszd : decide (s.size ≤ 1048576) = false := by simp; omega
    go_enter Tryd.func4, Tryd.ntmps4
    go_wp2_with (go_at_call 15; refine (bytes15_any _ _ _ hs).mono ?_; rintro e w' ⟨rfl, rfl⟩; rw [hszd])
    go_ret
    exact ⟨rfl, Below.refl _ _⟩
end Go.Proofs.Qxb6602256aDoor
