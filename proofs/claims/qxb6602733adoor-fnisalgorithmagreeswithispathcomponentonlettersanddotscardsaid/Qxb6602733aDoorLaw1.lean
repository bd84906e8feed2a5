/-
  FnIsPathComponentAgreesWithAutomaton: the walk of the law.
-/
import Derived.Test.Qxb6602733aDoorWalksB
namespace Go.Proofs.Qxb6602733aDoor
open Go.RowKit

theorem pcZ_any (s : ByteArray) (w : World) (hs : s.size ≤ 9223372036854775807) :
    Calls Tryd.prog 8 #[.string s] w fun e w' => e = .returned (.bool (Pl.pc s.data.toList)) ∧ Below w.heap.size w w' := by
  obtain ⟨B, hB⟩ : ∃ B, Pl.pc s.data.toList = B := ⟨_, rfl⟩
  have hC := fun W => pc_any s W hs
  rw [hB] at hC ⊢
  clear hB
  go_enter Tryd.func8, Tryd.ntmps8
  go_wp2_with (go_at_call 12; refine (hC _).mono ?_; rintro e w' ⟨rfl, hb⟩)
  go_ret
  exact ⟨rfl, hb⟩

set_option maxHeartbeats 400000 in
theorem bytes6_any (s : ByteArray) (w : World) (hs : s.size ≤ 9223372036854775807) :
    Calls Tryd.prog 6 #[.string s] w fun e w' => e = .returned (.bool (decide (s.size ≤ 1048576))) ∧ w' = w := by
  by_cases h : s.size ≤ 1048576
  · go_enter Tryd.func6, Tryd.ntmps6
    go_wp2
    go_ret
    exact ⟨ret_bool (by simp [h]), rfl⟩
  · go_enter Tryd.func6, Tryd.ntmps6
    go_wp2
    go_ret
    exact ⟨ret_bool (by simp; omega), rfl⟩

theorem run_next (s : ByteArray) (k : Nat) (h : k < s.size) : Pl.run 0 (s.data.toList.take (k + 1)) = Pl.step (Pl.run 0 (s.data.toList.take k)) s[k] := by
  rw [List.take_succ_eq_append_getElem (by rw [← size_list]; exact h), Pl.run_append]
  rfl

set_option maxRecDepth 100000 in
set_option maxHeartbeats 1000000 in
theorem law1 (s : ByteArray) (w : World) (hs : s.size ≤ 9223372036854775807) :
    Calls Tryd.prog 3 #[.string s] w fun e w' => e = .returned (.bool true) ∧ Below w.heap.size w w' := by
  by_cases hsz : s.size ≤ 1048576
  · have hszd : decide (s.size ≤ 1048576) = true := by simpa using hsz
    have hC := fun W => pcZ_any s W hs
    go_enter Tryd.func3, Tryd.ntmps3
    go_wp2_with (go_at_call 6; refine (bytes6_any _ _ hs).mono ?_; rintro e w' ⟨rfl, rfl⟩; rw [hszd])
    go_loop [3, 4] (fun v i => ∃ k st : Nat, k ≤ s.size ∧ i = .int .i64 k ∧ v = .int .i64 (st : Int) ∧ Hid (Pl.run 0 (s.data.toList.take k) = st)) (fun _ i => s.size - (intOf i).toNat)
    case atStart => exact ⟨0, 0, Nat.zero_le _, rfl, rfl, rfl⟩
    case round =>
      obtain ⟨k, st, hk, rfl, rfl, HR⟩ := hrel
      by_cases hlt : k < s.size
      · go_wp2_with (go_at_call 7; refine (step_any st s[k] _).mono ?_; rintro e w' ⟨rfl, rfl⟩)
        go_round
        case rel =>
          refine ⟨k + 1, _, by omega, by go_num, rfl, ?_⟩
          show _ = _
          rw [run_next s k hlt, HR.out]
        case measure => simp [intOf]; omega
      · have he : Pl.pc s.data.toList = decide (st = 1) := by
          have := HR.out
          rw [List.take_of_length_le (by rw [← size_list]; omega)] at this
          unfold Pl.pc
          rw [this]
        rw [he] at hC
        clear he
        go_wp2_with (go_at_call 8; refine (hC _).mono ?_; rintro e w2 ⟨rfl, hb⟩)
        go_ret
        refine ⟨ret_bool ?_, hb⟩
        by_cases h1 : st = 1
        · subst h1; simp
        · have : ((st : Int) == 1) = false := by rw [beq_eq_false_iff_ne]; omega
          simp [h1, this]
  · have hszd : decide (s.size ≤ 1048576) = false := by simp; omega
    go_enter Tryd.func3, Tryd.ntmps3
    go_wp2_with (go_at_call 6; refine (bytes6_any _ _ hs).mono ?_; rintro e w' ⟨rfl, rfl⟩; rw [hszd])
    go_ret
    exact ⟨rfl, Below.refl _ _⟩
end Go.Proofs.Qxb6602733aDoor
