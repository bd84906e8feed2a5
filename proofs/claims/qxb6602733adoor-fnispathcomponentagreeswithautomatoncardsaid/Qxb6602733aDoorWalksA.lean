/-
  The walks of the small functions: each computes a plain function of its arguments.
-/
import Derived.Test.Qxb6602733aDoorRows
import Derived.Test.Qxb6602733aDoorPlain
import Derived.Test.Qxb6602733aDoorShelfA
import Derived.WalkKit
import Derived.Lib.Strings
import Derived.WalkSpells
import Derived.WalkLawsBesides
import Derived.Handy
import Derived.PlainAid
import Derived.Deep.DeepCutAuto
import Derived.Deep.CutBlock
namespace Go.Proofs.Qxb6602733aDoor
open Go.RowKit

theorem ret_int {k : IntKind} {a b : Int} (h : a = b) : Ending.returned (.int k a) = .returned (.int k b) := by rw [h]
theorem ret_bool {a b : Bool} (h : a = b) : Ending.returned (.bool a) = .returned (.bool b) := by rw [h]
theorem size_list (s : ByteArray) : s.size = s.data.toList.length := by rw [Array.length_toList]; rfl
theorem mk_list (s : ByteArray) : (⟨s.data.toList.toArray⟩ : ByteArray) = s := by cases s; simp
theorem get_list (s : ByteArray) (k : Nat) (h : k < s.size) : s[k] = s.data.toList[k]'(by rw [← size_list]; exact h) := rfl
theorem extract_list (s : ByteArray) (a b : Nat) : s.extract a b = ⟨((s.data.toList.drop a).take (b - a)).toArray⟩ := Lib.extract_eq s a b
theorem beq_byte {c : UInt8} {n : UInt8} : (((c.toNat : Int) == (n.toNat : Int)) = true) ↔ c = n := by
  rw [beq_iff_eq]
  constructor
  · intro h; exact UInt8.toNat_inj.1 (by omega)
  · rintro rfl; rfl
theorem beq_no {c : UInt8} {n : UInt8} (h : c ≠ n) : ((c.toNat : Int) == (n.toNat : Int)) = false := by
  rw [Bool.eq_false_iff, ne_eq, beq_byte]; exact h

set_option maxHeartbeats 400000 in
theorem isDigit_any (c : Int) (w : World) :
    Calls Tryd.prog 19 #[.int .u8 c] w fun e w' => e = .returned (.bool (decide (48 ≤ c) && decide (c ≤ 57))) ∧ w' = w := by
  by_cases h1 : 48 ≤ c
  · go_enter Tryd.func19, Tryd.ntmps19
    go_wp2
    go_ret
    exact ⟨by simp [h1], rfl⟩
  · go_enter Tryd.func19, Tryd.ntmps19
    go_wp2
    go_ret
    exact ⟨by simp; omega, rfl⟩
theorem al_int (c : UInt8) : Pl.al c = ((decide ((97 : Int) ≤ (c.toNat : Int)) && decide ((c.toNat : Int) ≤ 122)) || (decide ((48 : Int) ≤ (c.toNat : Int)) && decide ((c.toNat : Int) ≤ 57))) := by
  unfold Pl.al
  rw [Bool.eq_iff_iff]
  simp
  omega
set_option maxHeartbeats 400000 in
theorem isLow_any (c : UInt8) (w : World) :
    Calls Tryd.prog 14 #[.int .u8 (c.toNat : Int)] w fun e w' => e = .returned (.bool (Pl.al c)) ∧ w' = w := by
  rw [al_int]
  obtain ⟨z, hz⟩ : ∃ z : Int, (c.toNat : Int) = z := ⟨_, rfl⟩
  rw [hz]
  clear hz
  by_cases h1 : 97 ≤ z
  · by_cases h2 : z ≤ 122
    · go_enter Tryd.func14, Tryd.ntmps14
      go_wp2_with (go_at_call 19; refine (isDigit_any _ _).mono ?_; rintro e w' ⟨rfl, rfl⟩)
      go_ret
      exact ⟨by simp [h1, h2], rfl⟩
    · go_enter Tryd.func14, Tryd.ntmps14
      go_wp2_with (go_at_call 19; refine (isDigit_any _ _).mono ?_; rintro e w' ⟨rfl, rfl⟩)
      go_ret
      exact ⟨ret_bool (by simp; omega), rfl⟩
  · go_enter Tryd.func14, Tryd.ntmps14
    go_wp2_with (go_at_call 19; refine (isDigit_any _ _).mono ?_; rintro e w' ⟨rfl, rfl⟩)
    go_ret
    exact ⟨ret_bool (by simp; omega), rfl⟩

set_option maxRecDepth 100000 in
set_option maxHeartbeats 1000000 in
theorem step_any (st : Nat) (c : UInt8) (w : World) :
    Calls Tryd.prog 7 #[.int .i64 (st : Int), .int .u8 (c.toNat : Int)] w fun e w' => e = .returned (.int .i64 (Pl.step st c : Int)) ∧ w' = w := by
  by_cases h6 : st = 6
  · subst h6
    go_enter Tryd.func7, Tryd.ntmps7
    go_wp2
    go_ret
    exact ⟨rfl, rfl⟩
  have b6 : ((st : Int) == 6) = false := by rw [beq_eq_false_iff_ne]; omega
  go_enter Tryd.func7, Tryd.ntmps7
  go_upto_region 3 with fail
  go_cut [20] from 5 to 20 (fun t wx => t = .bool (Pl.al c) ∧ w = wx)
  case first =>
    have hA := al_int c
    have HA : Hid _ := hA
    clear hA
    by_cases h1 : (97 : Int) ≤ (c.toNat : Int)
    · by_cases h2 : (c.toNat : Int) ≤ 122
      · go_wp2_with fail
        go_meet
        case rel => exact ⟨congrArg Value.bool (by rw [HA.out, Bool.eq_iff_iff]; simp; omega), rfl⟩
      · have h3 : (48 : Int) ≤ (c.toNat : Int) := by omega
        go_wp2_with fail
        go_meet
        case rel => exact ⟨congrArg Value.bool (by rw [HA.out, Bool.eq_iff_iff]; simp; omega), rfl⟩
    · by_cases h3 : (48 : Int) ≤ (c.toNat : Int)
      · go_wp2_with fail
        go_meet
        case rel => exact ⟨congrArg Value.bool (by rw [HA.out, Bool.eq_iff_iff]; simp; omega), rfl⟩
      · go_wp2_with fail
        go_meet
        case rel => exact ⟨congrArg Value.bool (by rw [HA.out, Bool.eq_iff_iff]; simp; omega), rfl⟩
  case rest =>
  obtain ⟨rfl, rfl⟩ := hcut
  cases hal : Pl.al c with
  | true =>
    go_wp2_with fail
    go_ret
    exact ⟨ret_int (by rw [Pl.step_al h6 hal]; rfl), rfl⟩
  | false =>
    have hst := Pl.step_no (st := st) hal
    rw [if_neg h6] at hst
    have HS : Hid _ := hst
    clear hst
    by_cases h46 : c = 46
    · subst h46
      by_cases h1 : st = 1
      · subst h1
        go_wp2_with fail
        go_ret
        exact ⟨rfl, rfl⟩
      · have b1 : ((st : Int) == 1) = false := by rw [beq_eq_false_iff_ne]; omega
        go_wp2_with fail
        go_ret
        exact ⟨ret_int (by rw [HS.out]; simp [h1]), rfl⟩
    have b46 : ((c.toNat : Int) == 46) = false := beq_no (n := 46) h46
    by_cases h95 : c = 95
    · subst h95
      by_cases h1 : st = 1
      · subst h1
        go_wp2_with fail
        go_ret
        exact ⟨rfl, rfl⟩
      · have b1 : ((st : Int) == 1) = false := by rw [beq_eq_false_iff_ne]; omega
        by_cases h3 : st = 3
        · subst h3
          go_wp2_with fail
          go_ret
          exact ⟨rfl, rfl⟩
        · have b3 : ((st : Int) == 3) = false := by rw [beq_eq_false_iff_ne]; omega
          go_wp2_with fail
          go_ret
          exact ⟨ret_int (by rw [HS.out]; simp [h1, h3]), rfl⟩
    have b95 : ((c.toNat : Int) == 95) = false := beq_no (n := 95) h95
    by_cases h45 : c = 45
    · subst h45
      by_cases h1 : st = 1
      · subst h1
        go_wp2_with fail
        go_ret
        exact ⟨rfl, rfl⟩
      · have b1 : ((st : Int) == 1) = false := by rw [beq_eq_false_iff_ne]; omega
        by_cases h5 : st = 5
        · subst h5
          go_wp2_with fail
          go_ret
          exact ⟨rfl, rfl⟩
        · have b5 : ((st : Int) == 5) = false := by rw [beq_eq_false_iff_ne]; omega
          go_wp2_with fail
          go_ret
          exact ⟨ret_int (by rw [HS.out]; simp [h1, h5]), rfl⟩
    have b45 : ((c.toNat : Int) == 45) = false := beq_no (n := 45) h45
    go_wp2_with fail
    go_ret
    exact ⟨ret_int (by rw [HS.out]; simp [h46, h95, h45]), rfl⟩
end Go.Proofs.Qxb6602733aDoor
