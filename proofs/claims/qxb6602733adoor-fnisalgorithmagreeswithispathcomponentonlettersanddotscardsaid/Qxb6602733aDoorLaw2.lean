/-
  isAlgorithm on letters and dots; FnIsAlgorithmAgreesWithIsPathComponentOnLettersAndDots: the walk of the law.
-/
import Derived.Test.Qxb6602733aDoorLaw1
namespace Go.Proofs.Qxb6602733aDoor
open Go.RowKit

/-- A lower-case letter. -/
def Low (c : UInt8) : Prop := (97 : Int) ≤ (c.toNat : Int) ∧ (c.toNat : Int) ≤ 122
/-- A dot or a lower-case letter. -/
def Ld (c : UInt8) : Prop := c = 46 ∨ Low c
theorem low_al {c : UInt8} (h : Low c) : Pl.al c = true := by
  obtain ⟨h1, h2⟩ := h
  rw [al_int]
  simp
  omega
theorem low_ne {c : UInt8} (h : Low c) : c ≠ 43 ∧ c ≠ 46 ∧ c ≠ 95 ∧ c ≠ 45 := by
  obtain ⟨h1, h2⟩ := h
  refine ⟨?_, ?_, ?_, ?_⟩ <;> (rintro rfl; revert h1 h2; decide)

theorem letter_low (c : UInt8) (w : World) (h : Low c) :
    Calls Tryd.prog 16 #[.int .u8 (c.toNat : Int)] w fun e w' => e = .returned (.bool true) ∧ w' = w := by
  obtain ⟨h1, h2⟩ := h
  go_enter Tryd.func16, Tryd.ntmps16
  go_wp2
  go_ret
  exact ⟨rfl, rfl⟩
theorem letter_dot (w : World) :
    Calls Tryd.prog 16 #[.int .u8 46] w fun e w' => e = .returned (.bool false) ∧ w' = w := by
  go_enter Tryd.func16, Tryd.ntmps16
  go_wp2
  go_ret
  exact ⟨rfl, rfl⟩
theorem alnum_low (c : UInt8) (w : World) (h : Low c) :
    Calls Tryd.prog 18 #[.int .u8 (c.toNat : Int)] w fun e w' => e = .returned (.bool true) ∧ w' = w := by
  have hC := fun W => letter_low c W h
  clear h
  go_enter Tryd.func18, Tryd.ntmps18
  go_wp2_with (go_at_call 16; refine (hC _).mono ?_; rintro e w' ⟨rfl, rfl⟩)
  go_ret
  exact ⟨rfl, rfl⟩
theorem index_low (c : UInt8) (w : World) (h : Low c) :
    Calls Tryd.prog 17 #[.string ⟨#[43, 46, 95, 45]⟩, .int .u8 (c.toNat : Int)] w fun e w' => e = .returned (.int .i64 (-1)) ∧ w' = w := by
  refine (Tryd.strings_IndexByte ⟨#[43, 46, 95, 45]⟩ (c.toNat : Int) w).mono ?_
  rintro e w' ⟨rfl, rfl⟩
  refine ⟨ret_int ?_, rfl⟩
  obtain ⟨h1, h2, h3, h4⟩ := low_ne h
  have hc : ((c.toNat : Int)).toNat.toUInt8 = c := by simp
  rw [hc]
  simp [Lib.indexByte, h1.symm, h2.symm, h3.symm, h4.symm]
theorem index_dot (w : World) :
    Calls Tryd.prog 17 #[.string ⟨#[43, 46, 95, 45]⟩, .int .u8 46] w fun e w' => e = .returned (.int .i64 1) ∧ w' = w := by
  refine (Tryd.strings_IndexByte ⟨#[43, 46, 95, 45]⟩ 46 w).mono ?_
  rintro e w' ⟨rfl, rfl⟩
  exact ⟨ret_int (by rfl), rfl⟩

set_option maxRecDepth 100000 in
set_option maxHeartbeats 1000000 in
theorem alg_any (s : ByteArray) (w : World) (hs : s.size ≤ 9223372036854775807) (hld : ∀ k (h : k < s.size), Ld s[k]) :
    Calls Tryd.prog 13 #[.string s] w fun e w' => e = .returned (.bool (Pl.pc s.data.toList)) ∧ w' = w := by
  have HLD : Hid (∀ k (h : k < s.size), Ld s[k]) := hld
  clear hld
  have hsz := (show Hid _ from size_list s)
  go_enter Tryd.func13, Tryd.ntmps13
  go_wp2
  go_loop [3, 4, 5] (fun v i _ => ∃ (k st : Nat) (b : Bool), k ≤ s.size ∧ i = .int .i64 k ∧ v = .bool b ∧ Hid (Pl.run 0 (s.data.toList.take k) = st) ∧ Hid ((b = true ∧ (st = 0 ∨ st = 2)) ∨ (b = false ∧ st = 1))) (fun _ i _ => s.size - (intOf i).toNat)
  case atStart => exact ⟨0, 0, true, Nat.zero_le _, rfl, rfl, rfl, Or.inl ⟨rfl, Or.inl rfl⟩⟩
  case round =>
    obtain ⟨k, st, b, hk, rfl, rfl, HR, HB⟩ := hrel
    by_cases hlt : k < s.size
    case neg =>
      have he : Hid (Pl.pc s.data.toList = !b) := by
        show _ = _
        have := HR.out
        rw [List.take_of_length_le (by rw [← size_list]; omega)] at this
        unfold Pl.pc
        rw [this]
        rcases HB.out with ⟨rfl, rfl | rfl⟩ | ⟨rfl, rfl⟩ <;> rfl
      go_wp2
      go_ret
      exact ⟨ret_bool he.out.symm, rfl⟩
    case pos =>
    have hnext := (show Hid _ from run_next s k hlt)
    have HL : Hid (Ld s[k]) := HLD.out k hlt
    obtain ⟨c, hc⟩ : ∃ c, s[k] = c := ⟨_, rfl⟩
    have hnext2 : Hid (Pl.run 0 (s.data.toList.take (k + 1)) = Pl.step st c) := by
      show _ = _
      rw [hnext.out, HR.out, hc]
    have HL2 : Hid (Ld c) := by rw [← hc]; exact HL
    clear hnext HL
    cases b with
    | true =>
      have hst : st ≠ 6 ∧ st ≠ 1 ∧ st ≠ 3 ∧ st ≠ 5 := by
        rcases HB.out with ⟨_, rfl | rfl⟩ | ⟨h, _⟩
        · decide
        · decide
        · cases h
      rcases HL2.out with rfl | hlow
      · have hdead : Hid (Pl.pc s.data.toList = false) := by
          show _ = _
          have h6 : Pl.run 0 (s.data.toList.take (k + 1)) = 6 := by
            rw [hnext2.out, Pl.step_no Pl.al46, if_neg hst.1]
            simp [hst.2.1]
          have : Pl.run 0 s.data.toList = 6 := by rw [← List.take_append_drop (k + 1) s.data.toList, Pl.run_append, h6, Pl.run_dead]
          simp [Pl.pc, this]
        clear hst
        go_wp2_with (go_at_call 16; refine (letter_dot _).mono ?_; rintro e w' ⟨rfl, rfl⟩)
        go_ret
        exact ⟨ret_bool hdead.out.symm, rfl⟩
      · have h1 : Hid (Pl.run 0 (s.data.toList.take (k + 1)) = 1) := by
          show _ = _
          rw [hnext2.out, Pl.step_al hst.1 (low_al hlow)]
        clear hst
        go_wp2_with (first
          | (go_at_call 16; refine (letter_low c _ hlow).mono ?_; rintro e w' ⟨rfl, rfl⟩)
          | (go_at_call 18; refine (alnum_low c _ hlow).mono ?_; rintro e w' ⟨rfl, rfl⟩))
        go_round
        case rel => exact ⟨k + 1, 1, false, by omega, by go_num, rfl, h1, Or.inr ⟨rfl, rfl⟩⟩
        case measure => simp [intOf]; omega
    | false =>
      have hst : st = 1 := by
        rcases HB.out with ⟨h, _⟩ | ⟨_, h⟩
        · cases h
        · exact h
      subst hst
      rcases HL2.out with rfl | hlow
      · have h2 : Hid (Pl.run 0 (s.data.toList.take (k + 1)) = 2) := by
          show _ = _
          rw [hnext2.out]; decide
        go_wp2_with (go_at_call 17; refine (index_dot _).mono ?_; rintro e w' ⟨rfl, rfl⟩)
        go_round
        case rel => exact ⟨k + 1, 2, true, by omega, by go_num, rfl, h2, Or.inl ⟨rfl, Or.inr rfl⟩⟩
        case measure => simp [intOf]; omega
      · have h1 : Hid (Pl.run 0 (s.data.toList.take (k + 1)) = 1) := by
          show _ = _
          rw [hnext2.out, Pl.step_al (by decide) (low_al hlow)]
        go_wp2_with (first
          | (go_at_call 17; refine (index_low c _ hlow).mono ?_; rintro e w' ⟨rfl, rfl⟩)
          | (go_at_call 18; refine (alnum_low c _ hlow).mono ?_; rintro e w' ⟨rfl, rfl⟩))
        go_round
        case rel => exact ⟨k + 1, 1, false, by omega, by go_num, rfl, h1, Or.inr ⟨rfl, rfl⟩⟩
        case measure => simp [intOf]; omega

theorem algZ_any (s : ByteArray) (w : World) (hs : s.size ≤ 9223372036854775807) (hld : ∀ k (h : k < s.size), Ld s[k]) :
    Calls Tryd.prog 11 #[.string s] w fun e w' => e = .returned (.bool (Pl.pc s.data.toList)) ∧ w' = w := by
  obtain ⟨B, hB⟩ : ∃ B, Pl.pc s.data.toList = B := ⟨_, rfl⟩
  have hC := fun W => alg_any s W hs hld
  rw [hB] at hC ⊢
  clear hB hld
  go_enter Tryd.func11, Tryd.ntmps11
  go_wp2_with (go_at_call 13; refine (hC _).mono ?_; rintro e w' ⟨rfl, rfl⟩)
  go_ret
  exact ⟨rfl, rfl⟩

set_option maxHeartbeats 400000 in
theorem bytes10_any (s : ByteArray) (w : World) (hs : s.size ≤ 9223372036854775807) :
    Calls Tryd.prog 10 #[.string s] w fun e w' => e = .returned (.bool (decide (s.size ≤ 1048576))) ∧ w' = w := by
  by_cases h : s.size ≤ 1048576
  · go_enter Tryd.func10, Tryd.ntmps10
    go_wp2
    go_ret
    exact ⟨ret_bool (by simp [h]), rfl⟩
  · go_enter Tryd.func10, Tryd.ntmps10
    go_wp2
    go_ret
    exact ⟨ret_bool (by simp; omega), rfl⟩

set_option maxRecDepth 100000 in
set_option maxHeartbeats 1000000 in
theorem law2 (s : ByteArray) (w : World) (hs : s.size ≤ 9223372036854775807) :
    Calls Tryd.prog 5 #[.string s] w fun e w' => e = .returned (.bool true) ∧ Below w.heap.size w w' := by
  by_cases hsz : s.size ≤ 1048576
  · have hszd : decide (s.size ≤ 1048576) = true := by simpa using hsz
    have hC := fun W => pcZ_any s W hs
    have hD := fun W (h : Hid (∀ k (h : k < s.size), Ld s[k])) => algZ_any s W hs h
    obtain ⟨B, hB⟩ : ∃ B, Pl.pc s.data.toList = B := ⟨_, rfl⟩
    rw [hB] at hC hD
    clear hB
    go_enter Tryd.func5, Tryd.ntmps5
    go_wp2_with (go_at_call 10; refine (bytes10_any _ _ hs).mono ?_; rintro e w' ⟨rfl, rfl⟩; rw [hszd])
    go_loop [3, 4] (fun i _ => ∃ k : Nat, k ≤ s.size ∧ i = .int .i64 k ∧ Hid (∀ j (h : j < s.size), j < k → Ld s[j])) (fun i _ => s.size - (intOf i).toNat)
    case atStart => exact ⟨0, Nat.zero_le _, rfl, fun j _ h => absurd h (by omega)⟩
    case round =>
      obtain ⟨k, hk, rfl, HR⟩ := hrel
      by_cases hlt : k < s.size
      · obtain ⟨c, hc⟩ : ∃ c, s[k] = c := ⟨_, rfl⟩
        by_cases h46 : c = 46
        · subst h46
          have HN : Hid (∀ j (h : j < s.size), j < k + 1 → Ld s[j]) := fun j h hj => by
            by_cases e : j = k
            · subst e; exact Or.inl hc
            · exact HR.out j h (by omega)
          go_wp2_with fail
          go_round
          case rel => exact ⟨k + 1, by omega, by go_num, HN⟩
          case measure => simp [intOf]; omega
        · have b46 : ((c.toNat : Int) == 46) = false := beq_no (n := 46) h46
          by_cases h1 : (97 : Int) ≤ (c.toNat : Int)
          · by_cases h2 : (c.toNat : Int) ≤ 122
            · have HN : Hid (∀ j (h : j < s.size), j < k + 1 → Ld s[j]) := fun j h hj => by
                by_cases e : j = k
                · subst e; rw [hc]; exact Or.inr ⟨h1, h2⟩
                · exact HR.out j h (by omega)
              go_wp2_with fail
              go_round
              case rel => exact ⟨k + 1, by omega, by go_num, HN⟩
              case measure => simp [intOf]; omega
            · go_wp2_with fail
              go_ret
              exact ⟨rfl, Below.refl _ _⟩
          · go_wp2_with fail
            go_ret
            exact ⟨rfl, Below.refl _ _⟩
      · have HN : Hid (∀ j (h : j < s.size), Ld s[j]) := fun j h => HR.out j h (by omega)
        go_wp2_with (first
          | (go_at_call 11; refine (hD _ HN).mono ?_; rintro e w2 ⟨rfl, rfl⟩)
          | (go_at_call 8; refine (hC _).mono ?_; rintro e w2 ⟨rfl, hb⟩))
        go_ret
        exact ⟨ret_bool (by simp), hb⟩
  · have hszd : decide (s.size ≤ 1048576) = false := by simp; omega
    go_enter Tryd.func5, Tryd.ntmps5
    go_wp2_with (go_at_call 10; refine (bytes10_any _ _ hs).mono ?_; rintro e w' ⟨rfl, rfl⟩; rw [hszd])
    go_ret
    exact ⟨rfl, Below.refl _ _⟩
end Go.Proofs.Qxb6602733aDoor
