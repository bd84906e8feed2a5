/-
  The walks of the small functions: each computes a plain function of its arguments.
-/
import Derived.Test.Qxb6602256aDoorRows
import Derived.Test.Qxb6602256aDoorPlain
import Derived.WalkKit
import Derived.Lib.Strings
import Derived.WalkSpells
import Derived.WalkLawsBesides
import Derived.Handy
import Derived.PlainAid
namespace Go.Proofs.Qxb6602256aDoor
open Go.RowKit

/-! ### Small bridges -/
theorem ret_str {a b : ByteArray} (h : a = b) : Ending.returned (.string a) = .returned (.string b) := by rw [h]
theorem ret_int {k : IntKind} {a b : Int} (h : a = b) : Ending.returned (.int k a) = .returned (.int k b) := by rw [h]
theorem ret_bool {a b : Bool} (h : a = b) : Ending.returned (.bool a) = .returned (.bool b) := by rw [h]
theorem size_list (s : ByteArray) : s.size = s.data.toList.length := by rw [Array.length_toList]; rfl
theorem mk_list (s : ByteArray) : (⟨s.data.toList.toArray⟩ : ByteArray) = s := by cases s; simp
theorem get_list (s : ByteArray) (k : Nat) (h : k < s.size) : s[k] = s.data.toList[k]'(by rw [← size_list]; exact h) := rfl
theorem extract_list (s : ByteArray) (a b : Nat) : s.extract a b = ⟨((s.data.toList.drop a).take (b - a)).toArray⟩ := Lib.extract_eq s a b
theorem extract_end (s : ByteArray) (a : Nat) : s.extract a s.size = ⟨(s.data.toList.drop a).toArray⟩ := by
  rw [extract_list, List.take_of_length_le (by rw [List.length_drop, size_list]; exact Nat.le_refl _)]
theorem extract_head (s : ByteArray) (b : Nat) : s.extract 0 b = ⟨(s.data.toList.take b).toArray⟩ := by
  rw [extract_list]; simp

theorem beq_byte {c : UInt8} {n : UInt8} : (((c.toNat : Int) == (n.toNat : Int)) = true) ↔ c = n := by
  rw [beq_iff_eq]
  constructor
  · intro h; exact UInt8.toNat_inj.1 (by omega)
  · rintro rfl; rfl

set_option maxHeartbeats 400000 in
theorem isDigit_any (c : Int) (w : World) :
    Calls Tryd.prog 26 #[.int .u8 c] w fun e w' => e = .returned (.bool (decide (48 ≤ c) && decide (c ≤ 57))) ∧ w' = w := by
  by_cases h1 : 48 ≤ c
  · go_enter Tryd.func26, Tryd.ntmps26
    go_wp2
    go_ret
    exact ⟨by simp [h1], rfl⟩
  · go_enter Tryd.func26, Tryd.ntmps26
    go_wp2
    go_ret
    exact ⟨by simp; omega, rfl⟩

set_option maxHeartbeats 400000 in
theorem abs_any (k : Int) (w : World) (h0 : -9223372036854775808 ≤ k) (h1 : k ≤ 9223372036854775807) :
    Calls Tryd.prog 12 #[.int .i64 k] w fun e w' => e = .returned (.int .u64 k.natAbs) ∧ w' = w := by
  by_cases hk : k < 0
  · go_enter Tryd.func12, Tryd.ntmps12
    go_wp2
    go_ret
    exact ⟨ret_int (by omega), rfl⟩
  · go_enter Tryd.func12, Tryd.ntmps12
    go_wp2
    go_ret
    exact ⟨ret_int (by omega), rfl⟩

theorem head_list (s : ByteArray) (h : 0 < s.size) : s.data.toList.head? = some s[0] := by
  rw [List.head?_eq_getElem?, List.getElem?_eq_getElem (by rw [← size_list]; exact h)]
  rfl
theorem mag_yes (s : ByteArray) (h : 0 < s.size) (h2 : ((s[0].toNat : Int) == 45) = true) : s.extract 1 s.size = ⟨(Pl.mag s.data.toList).toArray⟩ := by
  have h3 : s[0] = 45 := beq_byte.1 (by simpa using h2)
  rw [extract_end, Pl.mag, if_pos (by rw [head_list s h, h3])]
  simp
theorem mag_no (s : ByteArray) (h2 : ∀ h : 0 < s.size, ((s[0].toNat : Int) == 45) = false) : s = ⟨(Pl.mag s.data.toList).toArray⟩ := by
  rw [Pl.mag, if_neg, mk_list]
  intro e
  have hs : 0 < s.size := by
    rw [size_list]
    cases hl : s.data.toList with
    | nil => rw [hl] at e; simp at e
    | cons c r => simp
  rw [head_list s hs] at e
  have := h2 hs
  rw [Option.some.inj e] at this
  simp at this

set_option maxHeartbeats 400000 in
theorem mag_any (s : ByteArray) (w : World) :
    Calls Tryd.prog 11 #[.string s] w fun e w' => e = .returned (.string ⟨(Pl.mag s.data.toList).toArray⟩) ∧ w' = w := by
  go_enter Tryd.func11, Tryd.ntmps11
  go_wp2
  · go_ret
    exact ⟨ret_str (mag_yes s (by assumption) (by assumption)), rfl⟩
  · go_ret
    exact ⟨ret_str (mag_no s (fun _ => by assumption)), rfl⟩
  · go_ret
    exact ⟨ret_str (mag_no s (fun h => absurd h (by assumption))), rfl⟩

/-! ### zzDigitsValue -/
theorem take_snoc (l : List UInt8) (k : Nat) (h : k < l.length) : l.take (k + 1) = l.take k ++ [l[k]] := by
  rw [List.take_succ_eq_append_getElem h]
theorem val_take (l : List UInt8) (k : Nat) (h : k < l.length) : Pl.val (l.take (k + 1)) = Pl.val (l.take k) * 10 + (l[k].toNat - 48) := by
  rw [take_snoc l k h, Pl.val_snoc]
theorem val_bound {l : List UInt8} (h : Pl.AllD l) {n : Nat} (hn : l.length ≤ n) : Pl.val l < 10 ^ n :=
  Nat.lt_of_lt_of_le (Pl.val_lt h) (Nat.pow_le_pow_right (by decide) hn)

set_option maxHeartbeats 400000 in
theorem digitsValue_any (s : ByteArray) (w : World) (hd : Pl.AllD s.data.toList) (hs : s.size ≤ 19) :
    Calls Tryd.prog 27 #[.string s] w fun e w' => e = .returned (.int .u64 (Pl.val s.data.toList)) ∧ w' = w := by
  go_enter Tryd.func27, Tryd.ntmps27
  go_wp2
  go_loop [3, 4] (fun v i => ∃ k : Nat, k ≤ s.size ∧ i = .int .i64 k ∧ v = .int .u64 (Pl.val (s.data.toList.take k))) (fun _ i => s.size - (intOf i).toNat)
  case atStart => exact ⟨0, Nat.zero_le _, rfl, rfl⟩
  case round =>
    obtain ⟨k, hk, rfl, rfl⟩ := hrel
    by_cases hlt : k < s.size
    · have hb := val_bound (hd.take k) (n := 18) (by simp; omega)
      have hb2 : (Pl.val (s.data.toList.take k) : Int) ≤ 999999999999999999 := by omega
      have hg := get_list s k hlt
      have hc := hd.at k (by rw [← size_list]; exact hlt)
      have hv := val_take s.data.toList k (by rw [← size_list]; exact hlt)
      rw [← hg] at hc hv
      have HV : Hid (Pl.val (s.data.toList.take (k + 1)) = Pl.val (s.data.toList.take k) * 10 + (s[k].toNat - 48)) := hv
      have hc1 : 48 ≤ (s[k].toNat : Int) := by omega
      have hc2 : (s[k].toNat : Int) ≤ 57 := by omega
      clear hv hb hg hc
      go_wp2
      go_round
      case rel => exact ⟨k + 1, by omega, by go_num, by rw [HV.out]; go_num⟩
      case measure => simp [intOf]; omega
    · go_wp2
      go_ret
      exact ⟨ret_int (by rw [List.take_of_length_le (by rw [← size_list]; omega)]), rfl⟩

/-! ### zzMagnitudeExceeds -/
set_option maxHeartbeats 400000 in
theorem exceeds_any (s : ByteArray) (n : Int) (w : World) (hd : Pl.AllD s.data.toList) (hs : s.size ≤ 2097152) :
    Calls Tryd.prog 10 #[.string s, .int .u64 n] w fun e w' => e = .returned (.bool (decide (19 < s.size) || decide (n < (Pl.val s.data.toList : Int)))) ∧ w' = w := by
  by_cases h : 19 < s.size
  · go_enter Tryd.func10, Tryd.ntmps10
    go_wp2_with fail
    go_ret
    exact ⟨ret_bool (by simp [h]), rfl⟩
  · go_enter Tryd.func10, Tryd.ntmps10
    go_wp2_with (go_at_call 27; refine (digitsValue_any _ _ hd (by omega)).mono ?_; rintro e w' ⟨rfl, rfl⟩)
    go_ret
    exact ⟨ret_bool (by simp; omega), rfl⟩

/-! ### zzStripLeadingZeros -/
theorem strip_at (l : List UInt8) : ∀ k, k ≤ l.length → (∀ j (h : j < l.length), j < k → l[j] = 48) → (∀ h : k < l.length, l[k] ≠ 48) → Pl.strip l = l.drop k := by
  unfold Pl.strip
  induction l with
  | nil => intro k hk _ _; simp at hk; simp [hk]
  | cons c l ih =>
    intro k hk h1 h2
    cases k with
    | zero =>
      have := h2 (by simp)
      simp at this
      simp [this]
    | succ k =>
      have h0 := h1 0 (by simp) (by omega)
      simp at h0
      subst h0
      simp only [List.dropWhile_cons, beq_self_eq_true, if_true, List.drop_succ_cons]
      exact ih k (by simpa using hk) (fun j h hj => by have := h1 (j + 1) (by simp; omega) (by omega); simpa using this) (fun h => by have := h2 (by simp; omega); simpa using this)

set_option maxHeartbeats 400000 in
theorem strip_any (s : ByteArray) (w : World) (hs : s.size ≤ maxLen) :
    Calls Tryd.prog 31 #[.string s] w fun e w' => e = .returned (.string ⟨(Pl.strip s.data.toList).toArray⟩) ∧ w' = w := by
  unfold maxLen at hs
  go_enter Tryd.func31, Tryd.ntmps31
  go_wp2
  go_loop [3] (fun i => ∃ k : Nat, k ≤ s.size ∧ i = .int .i64 k ∧ (∀ j (h : j < s.data.toList.length), j < k → s.data.toList[j] = 48)) (fun i => s.size - (intOf i).toNat)
  case atStart => exact ⟨0, Nat.zero_le _, rfl, fun j _ h => absurd h (by omega)⟩
  case round =>
    obtain ⟨k, hk, rfl, hz⟩ := hrel
    have HZ : Hid (∀ j (h : j < s.data.toList.length), j < k → s.data.toList[j] = 48) := hz
    clear hz
    by_cases hlt : k < s.size
    · by_cases h48 : s[k] = 48
      · have hb : ((s[k].toNat : Int) == 48) = true := by rw [h48]; rfl
        have H48 : Hid (s[k] = 48) := h48
        clear h48
        go_wp2
        go_round
        case rel =>
          refine ⟨k + 1, by omega, by go_num, fun j h hj => ?_⟩
          by_cases e : j = k
          · subst e; exact H48.out
          · exact HZ.out j h (by omega)
        case measure => simp [intOf]; omega
      · have hb : ((s[k].toNat : Int) == 48) = false := by
          rw [Bool.eq_false_iff]
          intro e
          exact h48 (beq_byte.1 (by simpa using e))
        go_wp2
        go_ret
        refine ⟨ret_str ?_, rfl⟩
        rw [strip_at s.data.toList k (by rw [← size_list]; omega) HZ.out (fun h => h48)]
        rw [← extract_end]
    · go_wp2
      go_ret
      refine ⟨ret_str ?_, rfl⟩
      rw [strip_at s.data.toList k (by rw [← size_list]; omega) HZ.out (fun h => by rw [← size_list] at h; omega)]
      rw [← extract_end]

/-! ### zzCanonicalInteger -/
/-- '[1-9][0-9]*' as a test. -/
def magB (m : List UInt8) : Bool := !m.isEmpty && m.head? != some 48 && m.all (fun c => decide (48 ≤ c.toNat) && decide (c.toNat ≤ 57))
def canonB (l : List UInt8) : Bool := magB (Pl.mag l)
theorem canonB_iff (l : List UInt8) : canonB l = true ↔ Pl.Canon l := by
  unfold canonB magB Pl.Canon Pl.AllD
  generalize Pl.mag l = m
  cases m with
  | nil => simp
  | cons c r => simp

theorem magB_empty {m : ByteArray} (h : ¬ 0 < m.size) : magB m.data.toList = false := by
  have : m.data.toList = [] := List.eq_nil_of_length_eq_zero (by rw [← size_list]; omega)
  rw [this]; rfl
theorem magB_zero {m : ByteArray} (h : 0 < m.size) (h0 : ((m[0].toNat : Int) == 48) = true) : magB m.data.toList = false := by
  have h3 : m[0] = 48 := beq_byte.1 (by simpa using h0)
  unfold magB
  rw [head_list m h, h3]
  simp
theorem magB_bad {m : ByteArray} (k : Nat) (h : k < m.size) (hb : (decide (48 ≤ (m[k].toNat : Int)) && decide ((m[k].toNat : Int) ≤ 57)) = false) : magB m.data.toList = false := by
  rw [Bool.eq_false_iff]
  intro e
  unfold magB at e
  rw [Bool.and_eq_true, List.all_eq_true] at e
  have := e.2 m[k] (by rw [get_list m k h]; exact List.getElem_mem _)
  simp only [Bool.and_eq_true, decide_eq_true_eq] at this
  simp at hb
  omega
theorem magB_good {m : ByteArray} (h : 0 < m.size) (h0 : ((m[0].toNat : Int) == 48) = false) (hd : ∀ j (h : j < m.size), 48 ≤ m[j].toNat ∧ m[j].toNat ≤ 57) : magB m.data.toList = true := by
  have h3 : m[0] ≠ 48 := fun e => by rw [e] at h0; simp at h0
  unfold magB
  rw [head_list m h]
  have hn : m.data.toList.isEmpty = false := by
    rw [List.isEmpty_eq_false_iff]
    intro e
    rw [size_list, e] at h
    simp at h
  simp only [hn, Bool.not_false, Bool.true_and, Bool.and_eq_true, List.all_eq_true, decide_eq_true_eq]
  refine ⟨by simpa using h3, fun c hc => ?_⟩
  obtain ⟨j, hj, rfl⟩ := List.mem_iff_getElem.1 hc
  exact hd j (by rw [size_list]; exact hj)

set_option maxHeartbeats 400000 in
theorem canonInt_any (s : ByteArray) (w : World) (hs : s.size ≤ maxLen) :
    Calls Tryd.prog 9 #[.string s] w fun e w' => e = .returned (.bool (canonB s.data.toList)) ∧ w' = w := by
  obtain ⟨m, hm⟩ : ∃ m : ByteArray, m = ⟨(Pl.mag s.data.toList).toArray⟩ := ⟨_, rfl⟩
  have hms : m.size ≤ 9223372036854775807 := by
    rw [hm, size_list]
    have := Pl.mag_len s.data.toList
    rw [← size_list] at this
    unfold maxLen at hs
    show (Pl.mag s.data.toList).length ≤ _
    omega
  have e0 : canonB s.data.toList = magB m.data.toList := by rw [hm]; simp [canonB]
  rw [e0]
  have HM : Hid (m = ⟨(Pl.mag s.data.toList).toArray⟩) := hm
  clear hm e0 hs
  by_cases h0 : 0 < m.size
  · have hn0 : ((m.size : Int) == 0) = false := by rw [beq_eq_false_iff_ne]; omega
    by_cases hz : ((m[0].toNat : Int) == 48) = true
    · go_enter Tryd.func9, Tryd.ntmps9
      go_wp2_with (go_at_call 11; refine (mag_any _ _).mono ?_; rintro e w' ⟨rfl, rfl⟩; rw [← HM.out])
      go_ret
      exact ⟨ret_bool (magB_zero h0 hz).symm, rfl⟩
    · have hz' : ((m[0].toNat : Int) == 48) = false := by simpa using hz
      clear hz
      go_enter Tryd.func9, Tryd.ntmps9
      go_wp2_with (go_at_call 11; refine (mag_any _ _).mono ?_; rintro e w' ⟨rfl, rfl⟩; rw [← HM.out])
      go_loop [4] (fun i => ∃ k : Nat, k ≤ m.size ∧ i = .int .i64 k ∧ (∀ j (h : j < m.size), j < k → 48 ≤ m[j].toNat ∧ m[j].toNat ≤ 57)) (fun i => m.size - (intOf i).toNat)
      case atStart => exact ⟨0, Nat.zero_le _, rfl, fun j _ h => absurd h (by omega)⟩
      case round =>
        obtain ⟨k, hk, rfl, hd⟩ := hrel
        have HD : Hid (∀ j (h : j < m.size), j < k → 48 ≤ m[j].toNat ∧ m[j].toNat ≤ 57) := hd
        clear hd
        by_cases hlt : k < m.size
        · cases hb : (decide (48 ≤ (m[k].toNat : Int)) && decide ((m[k].toNat : Int) ≤ 57)) with
          | false =>
            go_wp2_with (go_at_call 26; refine (isDigit_any _ _).mono ?_; rintro e w' ⟨rfl, rfl⟩; rw [hb])
            go_ret
            exact ⟨ret_bool (magB_bad k hlt hb).symm, rfl⟩
          | true =>
            have HB : Hid (48 ≤ m[k].toNat ∧ m[k].toNat ≤ 57) := by
              simp only [Bool.and_eq_true, decide_eq_true_eq] at hb
              exact ⟨by omega, by omega⟩
            go_wp2_with (go_at_call 26; refine (isDigit_any _ _).mono ?_; rintro e w' ⟨rfl, rfl⟩; rw [hb])
            go_round
            case rel =>
              refine ⟨k + 1, by omega, by go_num, fun j h hj => ?_⟩
              by_cases e : j = k
              · subst e; exact HB.out
              · exact HD.out j h (by omega)
            case measure => simp [intOf]; omega
        · go_wp2_with fail
          go_ret
          exact ⟨ret_bool (magB_good h0 hz' (fun j h => HD.out j h (by omega))).symm, rfl⟩
  · have hn0 : ((m.size : Int) == 0) = true := by rw [beq_iff_eq]; omega
    go_enter Tryd.func9, Tryd.ntmps9
    go_wp2_with (go_at_call 11; refine (mag_any _ _).mono ?_; rintro e w' ⟨rfl, rfl⟩; rw [← HM.out])
    go_ret
    exact ⟨ret_bool (magB_empty h0).symm, rfl⟩

/-! ### The bounds on the arguments' bytes -/
set_option maxHeartbeats 400000 in
theorem bytes8_any (s : ByteArray) (k : Int) (w : World) (hs : s.size ≤ maxLen) :
    Calls Tryd.prog 8 #[.string s, .int .i64 k] w fun e w' => e = .returned (.bool (decide (s.size ≤ 1048576))) ∧ w' = w := by
  unfold maxLen at hs
  by_cases h : s.size ≤ 1048576
  · go_enter Tryd.func8, Tryd.ntmps8
    go_wp2
    go_ret
    exact ⟨ret_bool (by simp [h]), rfl⟩
  · go_enter Tryd.func8, Tryd.ntmps8
    go_wp2
    go_ret
    exact ⟨ret_bool (by simp; omega), rfl⟩
set_option maxHeartbeats 400000 in
theorem bytes15_any (s : ByteArray) (k : Int) (w : World) (hs : s.size ≤ maxLen) :
    Calls Tryd.prog 15 #[.string s, .int .i64 k] w fun e w' => e = .returned (.bool (decide (s.size ≤ 1048576))) ∧ w' = w := by
  unfold maxLen at hs
  by_cases h : s.size ≤ 1048576
  · go_enter Tryd.func15, Tryd.ntmps15
    go_wp2
    go_ret
    exact ⟨ret_bool (by simp [h]), rfl⟩
  · go_enter Tryd.func15, Tryd.ntmps15
    go_wp2
    go_ret
    exact ⟨ret_bool (by simp; omega), rfl⟩

end Go.Proofs.Qxb6602256aDoor
