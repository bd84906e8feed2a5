/-
  FnAddIntegerMatchesChunkModel: the walk of the law.
-/
import Derived.Test.Qxb6602256aDoorWalksD
namespace Go.Proofs.Qxb6602256aDoor
open Go.RowKit

theorem addZ_any (s : ByteArray) (k : Int) (w : World) (hs : s.size ≤ 2097152) (hc : Pl.Canon s.data.toList) (h0 : -9223372036854775808 ≤ k) (h1 : k ≤ 9223372036854775807) (hk : k.natAbs < Pl.val (Pl.mag s.data.toList)) :
    Calls Tryd.prog 13 #[.string s, .int .i64 k] w fun e w' => e = .returned (.string ⟨(Pl.sum s.data.toList k).toArray⟩) ∧ Below w.heap.size w w' := by
  go_enter Tryd.func13, Tryd.ntmps13
  go_wp2_with (go_at_call 28; refine (add_any _ _ _ hs hc h0 h1 hk).mono ?_; rintro e w' ⟨rfl, hb⟩)
  go_ret
  exact ⟨rfl, hb⟩
theorem mag_list (l : List UInt8) (w : World) : Calls Tryd.prog 11 #[.string ⟨l.toArray⟩] w fun e w' => e = .returned (.string ⟨(Pl.mag l).toArray⟩) ∧ w' = w := mag_any ⟨l.toArray⟩ w
theorem exceeds_list (l : List UInt8) (n : Nat) (w : World) (hd : Pl.AllD l) (hs : l.length ≤ 2097152) :
    Calls Tryd.prog 10 #[.string ⟨l.toArray⟩, .int .u64 n] w fun e w' => e = .returned (.bool (decide (19 < l.length) || decide (n < Pl.val l))) ∧ w' = w := by
  refine (exceeds_any ⟨l.toArray⟩ n w hd (by rw [size_mk]; exact hs)).mono ?_
  rintro e w' ⟨rfl, rfl⟩
  refine ⟨ret_bool ?_, rfl⟩
  rw [size_mk]
  congr 1
  simp
/-- A numeral of more than 19 digits is beyond every uint64 magnitude of an int64. -/
theorem exceeds_iff {l : List UInt8} {K : Nat} (hd : Pl.AllD l) (h0 : l ≠ []) (hh : l.head? ≠ some 48) (hK : K ≤ 9223372036854775808) : (decide (19 < l.length) || decide (K < Pl.val l)) = decide (K < Pl.val l) := by
  by_cases h : 19 < l.length
  · have : K < Pl.val l := by
      cases l with
      | nil => exact absurd rfl h0
      | cons c r =>
        have h1 := Pl.val_ge (l := r) hd.head (by simpa using hh)
        have h2 : 10 ^ 19 ≤ 10 ^ r.length := Nat.pow_le_pow_right (by decide) (by simp at h; omega)
        omega
    simp [this]
  · simp [h]

set_option maxRecDepth 100000 in
set_option maxHeartbeats 1000000 in
theorem law1 (s : ByteArray) (k : Int) (w : World) (hs : s.size ≤ maxLen) (h0 : -9223372036854775808 ≤ k) (h1 : k ≤ 9223372036854775807) :
    Calls Tryd.prog 3 #[.string s, .int .i64 k] w fun e w' => e = .returned (.bool true) ∧ Below w.heap.size w w' := by
  by_cases hsz : s.size ≤ 1048576
  · have hszd : decide (s.size ≤ 1048576) = true := by simpa using hsz
    cases hcan : canonB s.data.toList with
    | false =>
      go_enter Tryd.func3, Tryd.ntmps3
      go_wp2_with (first
        | (go_at_call 8; refine (bytes8_any _ _ _ hs).mono ?_; rintro e w' ⟨rfl, rfl⟩; rw [hszd])
        | (go_at_call 9; refine (canonInt_any _ _ hs).mono ?_; rintro e w' ⟨rfl, rfl⟩; rw [hcan]))
      go_ret
      exact ⟨rfl, Below.refl _ _⟩
    | true =>
      have hC := (canonB_iff _).1 hcan
      obtain ⟨m, hm⟩ : ∃ m : List UInt8, Pl.mag s.data.toList = m := ⟨_, rfl⟩
      obtain ⟨K, hK⟩ : ∃ K : Nat, k.natAbs = K := ⟨_, rfl⟩
      have hKb : K ≤ 9223372036854775808 := by omega
      have hml : m.length ≤ 2097152 := by have := Pl.mag_len s.data.toList; rw [hm, ← size_list] at this; omega
      have hmd : Pl.AllD m := by rw [← hm]; exact hC.2.2
      have hex := exceeds_iff hmd (by rw [← hm]; exact hC.1) (by rw [← hm]; exact hC.2.1) hKb
      have HM : Hid (Pl.mag s.data.toList = m) := hm
      have HK : Hid (k.natAbs = K) := hK
      have HEX : Hid ((decide (19 < m.length) || decide (K < Pl.val m)) = decide (K < Pl.val m)) := hex
      have HC : Hid (canonB s.data.toList = true) := hcan
      clear hm hK hcan hex
      by_cases hlt : K < Pl.val m
      · have hltd : decide (K < Pl.val m) = true := by simpa using hlt
        go_enter Tryd.func3, Tryd.ntmps3
        go_wp2_with (first
          | (go_at_call 8; refine (bytes8_any _ _ _ hs).mono ?_; rintro e w' ⟨rfl, rfl⟩; rw [hszd])
          | (go_at_call 9; refine (canonInt_any _ _ hs).mono ?_; rintro e w' ⟨rfl, rfl⟩; rw [HC.out])
          | (go_at_call 11; refine (mag_any _ _).mono ?_; rintro e w' ⟨rfl, rfl⟩; rw [HM.out])
          | (go_at_call 12; refine (abs_any _ _ h0 h1).mono ?_; rintro e w' ⟨rfl, rfl⟩; rw [HK.out])
          | (go_at_call 10; refine (exceeds_list _ _ _ hmd hml).mono ?_; rintro e w' ⟨rfl, rfl⟩; rw [HEX.out, hltd])
          | (go_at_call 13; refine (addZ_any _ _ _ (by omega) hC h0 h1 (by rw [HM.out, HK.out]; exact hlt)).mono ?_; rintro e w1 ⟨rfl, hb1⟩)
          | (go_at_call 14; refine (model_any _ _ _ hsz hC h0 h1 (by rw [HM.out, HK.out]; exact hlt)).mono ?_; rintro e w2 ⟨rfl, hb2⟩))
        go_ret
        exact ⟨ret_bool (by simp), below_then hb1 hb2⟩
      · have hltd : decide (K < Pl.val m) = false := by simp; omega
        go_enter Tryd.func3, Tryd.ntmps3
        go_wp2_with (first
          | (go_at_call 8; refine (bytes8_any _ _ _ hs).mono ?_; rintro e w' ⟨rfl, rfl⟩; rw [hszd])
          | (go_at_call 9; refine (canonInt_any _ _ hs).mono ?_; rintro e w' ⟨rfl, rfl⟩; rw [HC.out])
          | (go_at_call 11; refine (mag_any _ _).mono ?_; rintro e w' ⟨rfl, rfl⟩; rw [HM.out])
          | (go_at_call 12; refine (abs_any _ _ h0 h1).mono ?_; rintro e w' ⟨rfl, rfl⟩; rw [HK.out])
          | (go_at_call 10; refine (exceeds_list _ _ _ hmd hml).mono ?_; rintro e w' ⟨rfl, rfl⟩; rw [HEX.out, hltd]))
        go_ret
        exact ⟨rfl, Below.refl _ _⟩
  · have hszd : decide (s.size ≤ 1048576) = false := by simp; omega
    go_enter Tryd.func3, Tryd.ntmps3
    go_wp2_with (go_at_call 8; refine (bytes8_any _ _ _ hs).mono ?_; rintro e w' ⟨rfl, rfl⟩; rw [hszd])
    go_ret
    exact ⟨rfl, Below.refl _ _⟩
end Go.Proofs.Qxb6602256aDoor
