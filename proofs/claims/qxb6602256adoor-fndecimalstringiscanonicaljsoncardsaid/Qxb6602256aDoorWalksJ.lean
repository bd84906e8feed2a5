/-
  zzValidJSONNumber.
-/
import Derived.Test.Qxb6602256aDoorWalksC
import Derived.Test.Qxb6602256aDoorPlainJ
import Derived.Deep.DeepCutAuto
namespace Go.Proofs.Qxb6602256aDoor
open Go.RowKit

theorem drop_cons (s : ByteArray) (k : Nat) (h : k < s.size) : s.data.toList.drop k = s[k] :: s.data.toList.drop (k + 1) := by
  rw [List.drop_eq_getElem_cons (by rw [← size_list]; exact h)]
  rfl
theorem drop_nil (s : ByteArray) (k : Nat) (h : ¬ k < s.size) : s.data.toList.drop k = [] := List.drop_eq_nil_of_le (by rw [← size_list]; omega)
theorem byte_eq {c : UInt8} {n : UInt8} (h : c = n) : ((c.toNat : Int) == (n.toNat : Int)) = true := by subst h; simp
theorem byte_ne {c : UInt8} {n : UInt8} (h : c ≠ n) : ((c.toNat : Int) == (n.toNat : Int)) = false := by
  rw [Bool.eq_false_iff]
  exact fun e => h (beq_byte.1 e)
theorem isD_int (c : UInt8) : (decide (48 ≤ (c.toNat : Int)) && decide ((c.toNat : Int) ≤ 57)) = Pl.isD c := by
  unfold Pl.isD
  congr 1 <;> simp <;> omega
theorem dw_drop_step {s : ByteArray} {k : Nat} (h : k < s.size) (hd : Pl.isD s[k] = true) : Pl.dw (s.data.toList.drop k) = Pl.dw (s.data.toList.drop (k + 1)) := by
  rw [drop_cons s k h]
  simp [Pl.dw, hd]
theorem dw_drop_stop {s : ByteArray} {k : Nat} (h : ∀ h : k < s.size, Pl.isD s[k] = false) : Pl.dw (s.data.toList.drop k) = s.data.toList.drop k := by
  by_cases hk : k < s.size
  · rw [drop_cons s k hk]
    simp [Pl.dw, h hk]
  · rw [drop_nil s k hk]; rfl
theorem startsD_at {s : ByteArray} {k : Nat} (h : k < s.size) : Pl.startsD (s.data.toList.drop k) = Pl.isD s[k] := by rw [drop_cons s k h]; rfl
theorem startsD_end {s : ByteArray} {k : Nat} (h : ¬ k < s.size) : Pl.startsD (s.data.toList.drop k) = false := by rw [drop_nil s k h]; rfl

/-! ### The scan, step by step, as the walk meets it -/
theorem neg_at {s : ByteArray} (h : 0 < s.size) : ((s[0].toNat : Int) == 45) = Pl.neg s.data.toList := by
  rw [Bool.eq_iff_iff, Pl.neg_iff, head_list s h]
  constructor
  · intro h
    have h3 : s[0] = 45 := beq_byte.1 (by simpa using h)
    rw [h3]
  · intro h; rw [Option.some.inj h]; rfl
theorem neg_end {s : ByteArray} (h : ¬ 0 < s.size) : Pl.neg s.data.toList = false := by
  have : s.data.toList = [] := List.eq_nil_of_length_eq_zero (by rw [← size_list]; omega)
  rw [this]; rfl
theorem mag_neg {l : List UInt8} (h : Pl.neg l = true) : Pl.mag l = l.drop 1 := by
  unfold Pl.mag; rw [if_pos ((Pl.neg_iff l).1 h)]; simp
theorem mag_pos {l : List UInt8} (h : Pl.neg l = false) : Pl.mag l = l.drop 0 := by
  unfold Pl.mag; rw [if_neg (fun e => by rw [(Pl.neg_iff l).2 e] at h; cases h)]; simp
/-- The tests' booleans. -/
def dotB (r : List UInt8) : Bool := r.head? == some 46
def expB (r : List UInt8) : Bool := r.head? == some 101 || r.head? == some 69
def sgnB (r : List UInt8) : Bool := r.head? == some 43 || r.head? == some 45
theorem vFrac_dot {c : UInt8} {t : List UInt8} (h : c = 46) : Pl.vFrac (c :: t) = (Pl.startsD t && Pl.vExp (Pl.dw t)) := by simp [Pl.vFrac, h]
theorem vFrac_not {r : List UInt8} (h : dotB r = false) : Pl.vFrac r = Pl.vExp r := by
  cases r with
  | nil => rfl
  | cons c t =>
    have : c ≠ 46 := by simpa [dotB] using h
    simp [Pl.vFrac, this]
theorem vExp_yes {r : List UInt8} (h : expB r = true) : Pl.vExp r = (Pl.startsD (Pl.vSign r.tail) && (Pl.dw (Pl.vSign r.tail)).isEmpty) := by
  cases r with
  | nil => simp [expB] at h
  | cons c t =>
    have : c = 101 ∨ c = 69 := by simpa [expB] using h
    simp [Pl.vExp, this]
theorem vExp_no {r : List UInt8} (h : expB r = false) : Pl.vExp r = r.isEmpty := by
  cases r with
  | nil => rfl
  | cons c t =>
    have : ¬ (c = 101 ∨ c = 69) := by simpa [expB] using h
    simp only [Pl.vExp, if_neg this, List.isEmpty_cons]
theorem vSign_yes {r : List UInt8} (h : sgnB r = true) : Pl.vSign r = r.tail := by
  have : r.head? = some 43 ∨ r.head? = some 45 := by simpa [sgnB] using h
  simp [Pl.vSign, this]
theorem vSign_no {r : List UInt8} (h : sgnB r = false) : Pl.vSign r = r := by
  have : ¬ (r.head? = some 43 ∨ r.head? = some 45) := by simpa [sgnB] using h
  simp only [Pl.vSign, if_neg this]
theorem dot_at {s : ByteArray} {k : Nat} (h : k < s.size) : ((s[k].toNat : Int) == 46) = dotB (s.data.toList.drop k) := by
  rw [drop_cons s k h, Bool.eq_iff_iff]
  unfold dotB
  simp only [List.head?_cons, beq_iff_eq, Option.some.injEq]
  exact ⟨fun e => UInt8.toNat_inj.1 (by simp; omega), fun e => by rw [e]; rfl⟩
theorem dot_end {s : ByteArray} {k : Nat} (h : ¬ k < s.size) : dotB (s.data.toList.drop k) = false := by rw [drop_nil s k h]; rfl
theorem dot_lt {s : ByteArray} {k : Nat} (h : dotB (s.data.toList.drop k) = true) : k < s.size := by
  rcases Nat.lt_or_ge k s.size with h1 | h1
  · exact h1
  · rw [dot_end (by omega)] at h; cases h
theorem dot_eq {s : ByteArray} {k : Nat} (hk : k < s.size) (h : dotB (s.data.toList.drop k) = true) : s[k] = 46 := by
  rw [drop_cons s k hk] at h
  simpa [dotB] using h
theorem exp_at {s : ByteArray} {k : Nat} (h : k < s.size) : (((s[k].toNat : Int) == 101) || ((s[k].toNat : Int) == 69)) = expB (s.data.toList.drop k) := by
  rw [drop_cons s k h, Bool.eq_iff_iff]
  unfold expB
  simp only [List.head?_cons, Bool.or_eq_true, beq_iff_eq, Option.some.injEq]
  constructor
  · rintro (e | e)
    · exact Or.inl (UInt8.toNat_inj.1 (by simp; omega))
    · exact Or.inr (UInt8.toNat_inj.1 (by simp; omega))
  · rintro (e | e)
    · exact Or.inl (by rw [e]; rfl)
    · exact Or.inr (by rw [e]; rfl)
theorem exp_end {s : ByteArray} {k : Nat} (h : ¬ k < s.size) : expB (s.data.toList.drop k) = false := by rw [drop_nil s k h]; rfl
theorem exp_lt {s : ByteArray} {k : Nat} (h : expB (s.data.toList.drop k) = true) : k < s.size := by
  rcases Nat.lt_or_ge k s.size with h1 | h1
  · exact h1
  · rw [exp_end (by omega)] at h; cases h
theorem sgn_at {s : ByteArray} {k : Nat} (h : k < s.size) : (((s[k].toNat : Int) == 43) || ((s[k].toNat : Int) == 45)) = sgnB (s.data.toList.drop k) := by
  rw [drop_cons s k h, Bool.eq_iff_iff]
  unfold sgnB
  simp only [List.head?_cons, Bool.or_eq_true, beq_iff_eq, Option.some.injEq]
  constructor
  · rintro (e | e)
    · exact Or.inl (UInt8.toNat_inj.1 (by simp; omega))
    · exact Or.inr (UInt8.toNat_inj.1 (by simp; omega))
  · rintro (e | e)
    · exact Or.inl (by rw [e]; rfl)
    · exact Or.inr (by rw [e]; rfl)
theorem sgn_end {s : ByteArray} {k : Nat} (h : ¬ k < s.size) : sgnB (s.data.toList.drop k) = false := by rw [drop_nil s k h]; rfl
theorem sgn_lt {s : ByteArray} {k : Nat} (h : sgnB (s.data.toList.drop k) = true) : k < s.size := by
  rcases Nat.lt_or_ge k s.size with h1 | h1
  · exact h1
  · rw [sgn_end (by omega)] at h; cases h
theorem isEmpty_drop {s : ByteArray} {k : Nat} (hk : k ≤ s.size) : (s.data.toList.drop k).isEmpty = ((k : Int) == (s.size : Int)) := by
  rw [Bool.eq_iff_iff, List.isEmpty_iff, List.drop_eq_nil_iff, ← size_list, beq_iff_eq]
  omega

set_option maxRecDepth 100000 in
set_option maxHeartbeats 4000000 in
theorem valid_any (s : ByteArray) (w : World) (hs : s.size ≤ maxLen) :
    Calls Tryd.prog 17 #[.string s] w fun e w' => e = .returned (.bool (Pl.validB s.data.toList)) ∧ w' = w := by
  have hs : s.size ≤ 9223372036854775807 := hs
  go_enter Tryd.func17, Tryd.ntmps17
  -- the sign
  go_upto_region 2 with fail
  go_cut [15] from 6 to 15 (fun t wx => t = .bool (Pl.neg s.data.toList) ∧ w = wx)
  case first =>
    by_cases h0 : 0 < s.size
    · go_wp2_with fail
      go_meet
      case rel => exact ⟨by rw [neg_at h0], rfl⟩
    · go_wp2_with fail
      go_meet
      case rel => exact ⟨by rw [neg_end h0], rfl⟩
  case rest =>
  obtain ⟨rfl, rfl⟩ := hcut
  go_upto_if 15 with fail
  go_cut [3] from 6 to 17 (fun i wx => ∃ k : Nat, k ≤ s.size ∧ i = .int .i64 k ∧ Pl.vInt (s.data.toList.drop k) = Pl.validB s.data.toList ∧ w = wx)
  case first =>
    cases hn : Pl.neg s.data.toList with
    | true =>
      have h0 : 0 < s.size := by
        rcases Nat.eq_zero_or_pos s.size with h | h
        · rw [neg_end (by omega)] at hn; cases hn
        · exact h
      go_wp2_with fail
      go_meet
      case rel => exact ⟨1, h0, rfl, by rw [Pl.validB, mag_neg hn], rfl⟩
    | false =>
      go_wp2_with fail
      go_meet
      case rel => exact ⟨0, Nat.zero_le _, rfl, by rw [Pl.validB, mag_pos hn], rfl⟩
  case rest =>
  obtain ⟨k, hk, rfl, hv, rfl⟩ := hcut
  by_cases hlt : k < s.size
  case neg =>
    rw [drop_nil s k hlt] at hv
    go_wp2_with fail
    go_ret
    exact ⟨ret_bool hv, rfl⟩
  case pos =>
  have HV : Hid (Pl.vInt (s.data.toList.drop k) = Pl.validB s.data.toList) := hv
  clear hv
  -- the integer part
  obtain ⟨b48, hb48⟩ : ∃ b : Bool, ((s[k].toNat : Int) == 48) = b := ⟨_, rfl⟩
  have HB48 : Hid (((s[k].toNat : Int) == 48) = b48) := hb48
  clear hb48
  go_upto_region 6 with fail
  go_cut [25] from 6 to 25 (fun t wx => t = .bool b48 ∧ w = wx)
  case first =>
    go_wp2_with fail
    go_meet
    case rel => exact ⟨by rw [HB48.out], rfl⟩
  case rest =>
  obtain ⟨rfl, rfl⟩ := hcut
  go_upto_if 25 with fail
  go_cut [3] from 6 to 49 (fun i wx => ∃ k : Nat, k ≤ s.size ∧ i = .int .i64 k ∧ Pl.vFrac (s.data.toList.drop k) = Pl.validB s.data.toList ∧ w = wx)
  case first =>
    cases b48
    case true =>
      have h48 : Hid (s[k] = 48) := beq_byte.1 HB48.out
      go_wp2_with fail
      go_meet
      case rel => exact ⟨k + 1, by omega, by go_num, by rw [← HV.out, drop_cons s k hlt]; simp [Pl.vInt, h48.out], rfl⟩
    case false =>
      have h48 : s[k] ≠ 48 := fun e => by have := HB48.out; rw [e] at this; cases this
      cases hd : Pl.isD s[k] with
      | false =>
        have hf : ¬ (49 ≤ s[k].toNat ∧ s[k].toNat ≤ 57) := by
          intro h
          rw [(Pl.isD_iff _).2 (by omega)] at hd
          cases hd
        have hfin : Pl.validB s.data.toList = false := by rw [← HV.out, drop_cons s k hlt]; simp [Pl.vInt, h48, hd]
        have HF : Hid (Pl.validB s.data.toList = false) := hfin
        clear hfin hd h48
        by_cases h49 : 49 ≤ (s[k].toNat : Int)
        · have h57 : ¬ (s[k].toNat : Int) ≤ 57 := by omega
          go_wp2_with fail
          go_ret
          exact ⟨ret_bool HF.out.symm, rfl⟩
        · go_wp2_with fail
          go_ret
          exact ⟨ret_bool HF.out.symm, rfl⟩
      | true =>
        have hd2 := (Pl.isD_iff _).1 hd
        have hne : s[k].toNat ≠ 48 := fun e => h48 (UInt8.toNat_inj.1 e)
        have h49 : 49 ≤ (s[k].toNat : Int) := by omega
        have h57 : (s[k].toNat : Int) ≤ 57 := by omega
        have hfin : Pl.vFrac (Pl.dw (s.data.toList.drop k)) = Pl.validB s.data.toList := by
          rw [← HV.out]
          conv => rhs; rw [drop_cons s k hlt]
          simp only [Pl.vInt, if_neg h48, hd, if_true]
          rw [← drop_cons s k hlt]
        have HF : Hid (Pl.vFrac (Pl.dw (s.data.toList.drop k)) = Pl.validB s.data.toList) := hfin
        clear hfin hd h48 hd2 hne
        go_wp2_with fail
        go_loop [3] (fun i => ∃ q : Nat, k ≤ q ∧ q ≤ s.size ∧ i = .int .i64 q ∧ Pl.dw (s.data.toList.drop q) = Pl.dw (s.data.toList.drop k)) (fun i => s.size - (intOf i).toNat)
        case atStart => exact ⟨k, Nat.le_refl _, by omega, rfl, rfl⟩
        case round =>
          obtain ⟨j, hj0, hj, rfl, hd⟩ := hrel
          have HD : Hid (Pl.dw (s.data.toList.drop j) = Pl.dw (s.data.toList.drop k)) := hd
          clear hd
          by_cases hjl : j < s.size
          · cases hjd : Pl.isD s[j] with
            | true =>
              have HJ : Hid (Pl.isD s[j] = true) := hjd
              clear hjd
              go_wp2_with (go_at_call 26; refine (isDigit_any _ _).mono ?_; rintro e w' ⟨rfl, rfl⟩; rw [isD_int, HJ.out])
              go_round
              case rel => exact ⟨j + 1, by omega, by omega, by go_num, by rw [← dw_drop_step hjl HJ.out]; exact HD.out⟩
              case measure => simp [intOf]; omega
            | false =>
              have HJ : Hid (Pl.isD s[j] = false) := hjd
              clear hjd
              go_wp2_with (go_at_call 26; refine (isDigit_any _ _).mono ?_; rintro e w' ⟨rfl, rfl⟩; rw [isD_int, HJ.out])
              go_meet
              case rel => exact ⟨j, by omega, rfl, by rw [← HF.out, ← HD.out, dw_drop_stop (fun _ => HJ.out)], rfl⟩
          · go_wp2_with fail
            go_meet
            case rel => exact ⟨j, by omega, rfl, by rw [← HF.out, ← HD.out, dw_drop_stop (fun h => absurd h hjl)], rfl⟩
  case rest =>
  clear HV hlt HB48
  obtain ⟨k2, hk2, rfl, hv, rfl⟩ := hcut
  have HV : Hid (Pl.vFrac (s.data.toList.drop k2) = Pl.validB s.data.toList) := hv
  clear hv
  -- the fraction
  obtain ⟨bd, hbd⟩ : ∃ b : Bool, dotB (s.data.toList.drop k2) = b := ⟨_, rfl⟩
  have HBD : Hid (dotB (s.data.toList.drop k2) = bd) := hbd
  clear hbd
  go_upto_region 12 with fail
  go_cut [59] from 6 to 59 (fun t wx => t = .bool bd ∧ w = wx)
  case first =>
    by_cases hlt : k2 < s.size
    · have hb : ((s[k2].toNat : Int) == 46) = bd := by rw [← HBD.out]; exact dot_at hlt
      go_wp2_with fail
      go_meet
      case rel => exact ⟨rfl, rfl⟩
    · go_wp2_with fail
      go_meet
      case rel => exact ⟨by rw [← HBD.out, dot_end hlt], rfl⟩
  case rest =>
  obtain ⟨rfl, rfl⟩ := hcut
  go_upto_if 59 with fail
  go_cut [3, 4] from 6 to 77 (fun i _ wx => ∃ k : Nat, k ≤ s.size ∧ i = .int .i64 k ∧ Pl.vExp (s.data.toList.drop k) = Pl.validB s.data.toList ∧ w = wx)
  case first =>
    cases bd
    case false =>
      go_wp2_with fail
      go_meet
      case rel => exact ⟨k2, hk2, rfl, by rw [← HV.out, vFrac_not HBD.out], rfl⟩
    case true =>
      have hlt : k2 < s.size := dot_lt HBD.out
      have hfin : (Pl.startsD (s.data.toList.drop (k2 + 1)) && Pl.vExp (Pl.dw (s.data.toList.drop (k2 + 1)))) = Pl.validB s.data.toList := by
        rw [← HV.out]
        conv => rhs; rw [drop_cons s k2 hlt]
        rw [vFrac_dot (dot_eq hlt HBD.out)]
      have HF : Hid ((Pl.startsD (s.data.toList.drop (k2 + 1)) && Pl.vExp (Pl.dw (s.data.toList.drop (k2 + 1)))) = Pl.validB s.data.toList) := hfin
      clear hfin
      obtain ⟨k3, hk3⟩ : ∃ k3, k3 = k2 + 1 := ⟨_, rfl⟩
      rw [← hk3] at HF
      have hk3' : k3 ≤ s.size := by omega
      have hkk : (k2 : Int) + 1 = (k3 : Int) := by omega
      clear hk3
      go_wp2_with fail
      go_loop [3] (fun i => ∃ q : Nat, k3 ≤ q ∧ q ≤ s.size ∧ i = .int .i64 q ∧ Pl.dw (s.data.toList.drop q) = Pl.dw (s.data.toList.drop k3) ∧ (k3 < q → Pl.startsD (s.data.toList.drop k3) = true)) (fun i => s.size - (intOf i).toNat)
      case atStart => exact ⟨k3, Nat.le_refl _, by omega, rfl, rfl, fun h => absurd h (Nat.lt_irrefl _)⟩
      case round =>
        obtain ⟨j, hj0, hj, rfl, hd, hsd⟩ := hrel
        have HD : Hid (Pl.dw (s.data.toList.drop j) = Pl.dw (s.data.toList.drop k3)) := hd
        have HSD : Hid (k3 < j → Pl.startsD (s.data.toList.drop k3) = true) := hsd
        clear hd hsd
        by_cases hjl : j < s.size
        · cases hjd : Pl.isD s[j] with
          | true =>
            have HJ : Hid (Pl.isD s[j] = true) := hjd
            clear hjd
            go_wp2_with (go_at_call 26; refine (isDigit_any _ _).mono ?_; rintro e w' ⟨rfl, rfl⟩; rw [isD_int, HJ.out])
            go_round
            case rel =>
              refine ⟨j + 1, by omega, by omega, by go_num, by rw [← dw_drop_step hjl HJ.out]; exact HD.out, fun _ => ?_⟩
              by_cases e : k3 < j
              · exact HSD.out e
              · obtain rfl : j = k3 := by omega
                rw [startsD_at hjl]; exact HJ.out
            case measure => simp [intOf]; omega
          | false =>
            have HJ : Hid (Pl.isD s[j] = false) := hjd
            clear hjd
            by_cases hje : j = k3
            · have hb : ((j : Int) == (k3 : Int)) = true := by rw [beq_iff_eq]; omega
              have HE : Hid (j = k3) := hje
              clear hje
              go_wp2_with (go_at_call 26; refine (isDigit_any _ _).mono ?_; rintro e w' ⟨rfl, rfl⟩; rw [isD_int, HJ.out])
              go_ret
              refine ⟨ret_bool ?_, rfl⟩
              have e2 := HF.out
              rw [← HE.out, startsD_at hjl, HJ.out, Bool.false_and] at e2
              exact e2
            · have hb : ((j : Int) == (k3 : Int)) = false := by rw [beq_eq_false_iff_ne]; omega
              have hjk : k3 < j := by omega
              go_wp2_with (go_at_call 26; refine (isDigit_any _ _).mono ?_; rintro e w' ⟨rfl, rfl⟩; rw [isD_int, HJ.out])
              go_meet
              case rel => exact ⟨j, by omega, rfl, by rw [← HF.out, HSD.out hjk, Bool.true_and, ← HD.out, dw_drop_stop (fun _ => HJ.out)], rfl⟩
        · by_cases hje : j = k3
          · have hb : ((j : Int) == (k3 : Int)) = true := by rw [beq_iff_eq]; omega
            have HE : Hid (j = k3) := hje
            clear hje
            go_wp2_with fail
            go_ret
            refine ⟨ret_bool ?_, rfl⟩
            have e2 := HF.out
            rw [← HE.out, startsD_end hjl, Bool.false_and] at e2
            exact e2
          · have hb : ((j : Int) == (k3 : Int)) = false := by rw [beq_eq_false_iff_ne]; omega
            have hjk : k3 < j := by omega
            go_wp2_with fail
            go_meet
            case rel => exact ⟨j, by omega, rfl, by rw [← HF.out, HSD.out hjk, Bool.true_and, ← HD.out, dw_drop_stop (fun h => absurd h hjl)], rfl⟩
  case rest =>
  clear HV HBD
  obtain ⟨k4, hk4, rfl, hv, rfl⟩ := hcut
  have HV : Hid (Pl.vExp (s.data.toList.drop k4) = Pl.validB s.data.toList) := hv
  clear hv
  -- the exponent
  obtain ⟨be, hbe⟩ : ∃ b : Bool, expB (s.data.toList.drop k4) = b := ⟨_, rfl⟩
  have HBE : Hid (expB (s.data.toList.drop k4) = be) := hbe
  clear hbe
  go_upto_region 19 with fail
  go_cut [93] from 6 to 93 (fun t wx => t = .bool be ∧ w = wx)
  case first =>
    by_cases hlt : k4 < s.size
    · have hb := exp_at hlt
      rw [HBE.out] at hb
      cases hb1 : ((s[k4].toNat : Int) == 101)
      · have hb2 : ((s[k4].toNat : Int) == 69) = be := by rw [hb1, Bool.false_or] at hb; exact hb
        clear hb
        go_wp2_with fail
        go_meet
        case rel => exact ⟨rfl, rfl⟩
      · have hb2 : Hid (be = true) := by rw [hb1, Bool.true_or] at hb; exact hb.symm
        clear hb
        go_wp2_with fail
        go_meet
        case rel => exact ⟨by rw [hb2.out], rfl⟩
    · go_wp2_with fail
      go_meet
      case rel => exact ⟨by rw [← HBE.out, exp_end hlt], rfl⟩
  case rest =>
  obtain ⟨rfl, rfl⟩ := hcut
  go_upto_if 93 with fail
  go_cut [3, 5] from 6 to 129 (fun i _ wx => ∃ k : Nat, k ≤ s.size ∧ i = .int .i64 k ∧ ((k : Int) == (s.size : Int)) = Pl.validB s.data.toList ∧ w = wx)
  case first =>
    cases be
    case false =>
      go_wp2_with fail
      go_meet
      case rel => exact ⟨k4, hk4, rfl, by rw [← HV.out, vExp_no HBE.out, isEmpty_drop hk4], rfl⟩
    case true =>
      have hlt : k4 < s.size := exp_lt HBE.out
      have hfin : (Pl.startsD (Pl.vSign (s.data.toList.drop (k4 + 1))) && (Pl.dw (Pl.vSign (s.data.toList.drop (k4 + 1)))).isEmpty) = Pl.validB s.data.toList := by
        rw [← HV.out, vExp_yes HBE.out]
        simp
      obtain ⟨k5, hk5⟩ : ∃ k5, k5 = k4 + 1 := ⟨_, rfl⟩
      rw [← hk5] at hfin
      have hk5' : k5 ≤ s.size := by omega
      have hkk : (k4 : Int) + 1 = (k5 : Int) := by omega
      have HF0 : Hid ((Pl.startsD (Pl.vSign (s.data.toList.drop k5)) && (Pl.dw (Pl.vSign (s.data.toList.drop k5))).isEmpty) = Pl.validB s.data.toList) := hfin
      clear hk5 hfin HV HBE
      obtain ⟨bs, hbs⟩ : ∃ b : Bool, sgnB (s.data.toList.drop k5) = b := ⟨_, rfl⟩
      have HBS : Hid (sgnB (s.data.toList.drop k5) = bs) := hbs
      clear hbs
      go_upto_region 21 with fail
      go_cut [111] from 6 to 111 (fun t wx => t = .bool bs ∧ w = wx)
      case first =>
        by_cases hlt5 : k5 < s.size
        · have hb := sgn_at hlt5
          rw [HBS.out] at hb
          cases hb1 : ((s[k5].toNat : Int) == 43)
          · have hb2 : ((s[k5].toNat : Int) == 45) = bs := by rw [hb1, Bool.false_or] at hb; exact hb
            clear hb
            go_wp2_with fail
            go_meet
            case rel => exact ⟨rfl, rfl⟩
          · have hb2 : Hid (bs = true) := by rw [hb1, Bool.true_or] at hb; exact hb.symm
            clear hb
            go_wp2_with fail
            go_meet
            case rel => exact ⟨by rw [hb2.out], rfl⟩
        · go_wp2_with fail
          go_meet
          case rel => exact ⟨by rw [← HBS.out, sgn_end hlt5], rfl⟩
      case rest =>
      obtain ⟨rfl, rfl⟩ := hcut
      go_upto_if 111 with fail
      go_cut [3] from 6 to 113 (fun i wx => ∃ k : Nat, k ≤ s.size ∧ i = .int .i64 k ∧ s.data.toList.drop k = Pl.vSign (s.data.toList.drop k5) ∧ w = wx)
      case first =>
        cases bs
        case false =>
          go_wp2_with fail
          go_meet
          case rel => exact ⟨k5, hk5', rfl, by rw [vSign_no HBS.out], rfl⟩
        case true =>
          have hlt5 : k5 < s.size := sgn_lt HBS.out
          go_wp2_with fail
          go_meet
          case rel => exact ⟨k5 + 1, hlt5, by go_num, by rw [vSign_yes HBS.out]; simp, rfl⟩
      case rest =>
      obtain ⟨k6, hk6, rfl, hv6, rfl⟩ := hcut
      have HF : Hid ((Pl.startsD (s.data.toList.drop k6) && (Pl.dw (s.data.toList.drop k6)).isEmpty) = Pl.validB s.data.toList) := by
        have := HF0.out
        rw [← hv6] at this
        exact this
      clear hv6 HF0 HBS
      go_wp2_with fail
      go_loop [3] (fun i => ∃ q : Nat, k6 ≤ q ∧ q ≤ s.size ∧ i = .int .i64 q ∧ Pl.dw (s.data.toList.drop q) = Pl.dw (s.data.toList.drop k6) ∧ (k6 < q → Pl.startsD (s.data.toList.drop k6) = true)) (fun i => s.size - (intOf i).toNat)
      case atStart => exact ⟨k6, Nat.le_refl _, by omega, rfl, rfl, fun h => absurd h (Nat.lt_irrefl _)⟩
      case round =>
        obtain ⟨j, hj0, hj, rfl, hd, hsd⟩ := hrel
        have HD : Hid (Pl.dw (s.data.toList.drop j) = Pl.dw (s.data.toList.drop k6)) := hd
        have HSD : Hid (k6 < j → Pl.startsD (s.data.toList.drop k6) = true) := hsd
        clear hd hsd
        by_cases hjl : j < s.size
        · cases hjd : Pl.isD s[j] with
          | true =>
            have HJ : Hid (Pl.isD s[j] = true) := hjd
            clear hjd
            go_wp2_with (go_at_call 26; refine (isDigit_any _ _).mono ?_; rintro e w' ⟨rfl, rfl⟩; rw [isD_int, HJ.out])
            go_round
            case rel =>
              refine ⟨j + 1, by omega, by omega, by go_num, by rw [← dw_drop_step hjl HJ.out]; exact HD.out, fun _ => ?_⟩
              by_cases e : k6 < j
              · exact HSD.out e
              · obtain rfl : j = k6 := by omega
                rw [startsD_at hjl]; exact HJ.out
            case measure => simp [intOf]; omega
          | false =>
            have HJ : Hid (Pl.isD s[j] = false) := hjd
            clear hjd
            by_cases hje : j = k6
            · have hb : ((j : Int) == (k6 : Int)) = true := by rw [beq_iff_eq]; omega
              have HE : Hid (j = k6) := hje
              clear hje
              go_wp2_with (go_at_call 26; refine (isDigit_any _ _).mono ?_; rintro e w' ⟨rfl, rfl⟩; rw [isD_int, HJ.out])
              go_ret
              refine ⟨ret_bool ?_, rfl⟩
              have e2 := HF.out
              rw [← HE.out, startsD_at hjl, HJ.out, Bool.false_and] at e2
              exact e2
            · have hb : ((j : Int) == (k6 : Int)) = false := by rw [beq_eq_false_iff_ne]; omega
              have hjk : k6 < j := by omega
              go_wp2_with (go_at_call 26; refine (isDigit_any _ _).mono ?_; rintro e w' ⟨rfl, rfl⟩; rw [isD_int, HJ.out])
              go_meet
              case rel => exact ⟨j, by omega, rfl, by rw [← HF.out, HSD.out hjk, Bool.true_and, ← HD.out, dw_drop_stop (fun _ => HJ.out), isEmpty_drop hj], rfl⟩
        · by_cases hje : j = k6
          · have hb : ((j : Int) == (k6 : Int)) = true := by rw [beq_iff_eq]; omega
            have HE : Hid (j = k6) := hje
            clear hje
            go_wp2_with fail
            go_ret
            refine ⟨ret_bool ?_, rfl⟩
            have e2 := HF.out
            rw [← HE.out, startsD_end hjl, Bool.false_and] at e2
            exact e2
          · have hb : ((j : Int) == (k6 : Int)) = false := by rw [beq_eq_false_iff_ne]; omega
            have hjk : k6 < j := by omega
            go_wp2_with fail
            go_meet
            case rel => exact ⟨j, by omega, rfl, by rw [← HF.out, HSD.out hjk, Bool.true_and, ← HD.out, dw_drop_stop (fun h => absurd h hjl), isEmpty_drop hj], rfl⟩
  case rest =>
  clear HV HBE
  obtain ⟨k7, hk7, rfl, hv, rfl⟩ := hcut
  go_wp2_with fail
  go_ret
  exact ⟨rfl, rfl⟩
end Go.Proofs.Qxb6602256aDoor
