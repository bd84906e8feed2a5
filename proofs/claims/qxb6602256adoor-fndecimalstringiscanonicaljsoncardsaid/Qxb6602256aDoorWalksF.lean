/-
  zzFormOK on texts of the two kinds.
-/
import Derived.Test.Qxb6602256aDoorWalksA
import Derived.Deep.DeepCutAuto
import Derived.Deep.CutBlock
namespace Go.Proofs.Qxb6602256aDoor
open Go.RowKit

theorem beqv_no {c : UInt8} {n : UInt8} (h : c ≠ n) : ((c.toNat : Int) == (n.toNat : Int)) = false := by
  rw [Bool.eq_false_iff, ne_eq, beq_byte]; exact h
theorem beqv_yes {c : UInt8} {n : UInt8} (h : c = n) : ((c.toNat : Int) == (n.toNat : Int)) = true := beq_byte.2 h

set_option maxRecDepth 100000 in
set_option maxHeartbeats 2000000 in
theorem form_plain (s : ByteArray) (w : World) (hs : s.size ≤ 9000000000) (h69 : ∀ k (h : k < s.size), s[k] ≠ 69) (h101 : ∀ k (h : k < s.size), s[k] ≠ 101)
    (hdot : ∀ k (h : k < s.size), s[k] = 46 → s[s.size - 1]'(by omega) ≠ 48) :
    Calls Tryd.prog 25 #[.string s, .bool false] w fun e w' => e = .returned (.bool true) ∧ w' = w := by
  have H69 : Hid (∀ k (h : k < s.size), s[k] ≠ 69) := h69
  have H101 : Hid (∀ k (h : k < s.size), s[k] ≠ 101) := h101
  have HD : Hid (∀ k (h : k < s.size), s[k] = 46 → s[s.size - 1]'(by omega) ≠ 48) := hdot
  clear h69 h101 hdot
  go_enter Tryd.func25, Tryd.ntmps25
  go_wp2
  go_loop [5, 6] (fun v i => ∃ k : Nat, k ≤ s.size ∧ i = .int .i64 k ∧ v = .bool false) (fun _ i => s.size - (intOf i).toNat)
  case atStart => exact ⟨0, Nat.zero_le _, rfl, rfl⟩
  case round =>
    obtain ⟨k, hk, rfl, rfl⟩ := hrel
    by_cases hlt : k < s.size
    · have b69 : ((s[k].toNat : Int) == 69) = false := beqv_no (n := 69) (H69.out k hlt)
      have b101 : ((s[k].toNat : Int) == 101) = false := beqv_no (n := 101) (H101.out k hlt)
      go_wp2
      go_round
      case rel => exact ⟨k + 1, by omega, by go_num, rfl⟩
      case measure => simp [intOf]; omega
    · go_wp2
      go_loop [7] (fun i => ∃ k : Nat, k ≤ s.size ∧ i = .int .i64 k) (fun i => s.size - (intOf i).toNat)
      case atStart => exact ⟨0, Nat.zero_le _, rfl⟩
      case round =>
        obtain ⟨j, hj, rfl⟩ := hrel
        by_cases hjl : j < s.size
        · by_cases h46 : s[j] = 46
          · have b46 : ((s[j].toNat : Int) == 46) = true := beqv_yes (n := 46) h46
            have hl := HD.out j hjl h46
            have hp : s.size - 1 < s.size := by omega
            obtain ⟨m, hm⟩ : ∃ m : Nat, (s.size : Int) - 1 = (m : Int) := ⟨s.size - 1, by omega⟩
            obtain rfl : m = s.size - 1 := by omega
            have b48 : ((s[s.size - 1].toNat : Int) == 48) = false := beqv_no (n := 48) hl
            clear hl h46
            go_wp2
            go_ret
            exact ⟨ret_bool (by unfold bne; rw [b48]; rfl), rfl⟩
          · have b46 : ((s[j].toNat : Int) == 46) = false := beqv_no (n := 46) h46
            clear h46
            go_wp2
            go_round
            case rel => exact ⟨j + 1, by omega, by go_num⟩
            case measure => simp [intOf]; omega
        · go_wp2
          go_ret
          exact ⟨rfl, rfl⟩

/-- A text with an exponent: the digits begin at k, the mark stands at p. -/
structure Sci (s : ByteArray) (k p : Nat) : Prop where
  sign : (k = 0 ∧ ∀ h : 0 < s.size, s[0] ≠ 45) ∨ (k = 1 ∧ ∀ h : 0 < s.size, s[0] = 45)
  kp : k < p
  ps : p + 1 < s.size
  head : ∀ h : k < s.size, s[k] ≠ 48
  dot : (p = k + 1) ∨ (k + 1 < p ∧ (∀ h : k + 1 < s.size, s[k + 1] = 46) ∧ ∀ h : p - 1 < s.size, s[p - 1] ≠ 48)
  before : ∀ j (h : j < s.size), j < p → s[j] ≠ 101
  mark : ∀ h : p < s.size, s[p] = 101
  none69 : ∀ j (h : j < s.size), s[j] ≠ 69
  plus : ∀ h : p + 1 < s.size, s[p + 1] ≠ 43
  zero : (∀ h : p + 1 < s.size, s[p + 1] ≠ 45 ∧ s[p + 1] ≠ 48) ∨ (p + 2 < s.size ∧ (∀ h : p + 1 < s.size, s[p + 1] = 45) ∧ ∀ h : p + 2 < s.size, s[p + 2] ≠ 48)

set_option maxRecDepth 100000 in
set_option maxHeartbeats 4000000 in
theorem form_sci (s : ByteArray) (w : World) (hs : s.size ≤ 9000000000) (k p : Nat) (hS : Sci s k p) :
    Calls Tryd.prog 25 #[.string s, .bool true] w fun e w' => e = .returned (.bool true) ∧ w' = w := by
  have HS : Hid (Sci s k p) := hS
  have hkp := hS.kp
  have hps := hS.ps
  clear hS
  go_enter Tryd.func25, Tryd.ntmps25
  go_wp2
  go_loop [5, 6] (fun v i => ∃ (j : Nat) (b : Bool), j ≤ s.size ∧ i = .int .i64 j ∧ v = .bool b ∧ Hid (p < j → b = true)) (fun _ i => s.size - (intOf i).toNat)
  case atStart => exact ⟨0, false, Nat.zero_le _, rfl, rfl, fun h => absurd h (by omega)⟩
  case round =>
    obtain ⟨j, b, hj, rfl, rfl, HB⟩ := hrel
    by_cases hlt : j < s.size
    · have b69 : ((s[j].toNat : Int) == 69) = false := beqv_no (n := 69) (HS.out.none69 j hlt)
      by_cases h101 : s[j] = 101
      · have b101 : ((s[j].toNat : Int) == 101) = true := beqv_yes (n := 101) h101
        clear h101
        go_wp2
        go_round
        case rel => exact ⟨j + 1, true, by omega, by go_num, rfl, fun _ => rfl⟩
        case measure => simp [intOf]; omega
      · have b101 : ((s[j].toNat : Int) == 101) = false := beqv_no (n := 101) h101
        have HB2 : Hid (p < j + 1 → b = true) := fun h => by
          by_cases e : p = j
          · subst e; exact absurd (HS.out.mark hlt) h101
          · exact HB.out (by omega)
        clear h101
        go_wp2
        go_round
        case rel => exact ⟨j + 1, b, by omega, by go_num, rfl, HB2⟩
        case measure => simp [intOf]; omega
    · obtain rfl : b = true := HB.out (by omega)
      clear HB
      have h0 : 0 < s.size := by omega
      -- the sign
      go_upto_if 46 with fail
      go_cut [8] from 44 to 46 (fun i wx => i = .int .i64 (k : Int) ∧ w = wx)
      case first =>
        rcases HS.out.sign with ⟨hk, h45⟩ | ⟨hk, h45⟩
        · have b45 : ((s[0].toNat : Int) == 45) = false := beqv_no (n := 45) (h45 h0)
          clear h45
          go_wp2_with fail
          go_meet
          case rel => exact ⟨by rw [hk]; rfl, rfl⟩
        · have b45 : ((s[0].toNat : Int) == 45) = true := beqv_yes (n := 45) (h45 h0)
          clear h45
          go_wp2_with fail
          go_meet
          case rel => exact ⟨by rw [hk]; rfl, rfl⟩
      case rest =>
      obtain ⟨rfl, rfl⟩ := hcut
      have hks : k < s.size := by omega
      have b48 : ((s[k].toNat : Int) == 48) = false := beqv_no (n := 48) (HS.out.head hks)
      -- the point and what follows
      obtain ⟨k1, hk1, hk1e⟩ : ∃ k1 : Nat, k1 = k + 1 ∧ (k : Int) + 1 = (k1 : Int) := ⟨k + 1, rfl, by omega⟩
      have hk1s : k1 < s.size := by omega
      have hk1p : k1 ≤ p := by omega
      have HK1 : Hid (k1 = k + 1) := hk1
      clear hk1
      obtain ⟨b46, hb46⟩ : ∃ b : Bool, ((s[k1].toNat : Int) == 46) = b := ⟨_, rfl⟩
      have HB46 : Hid (((s[k1].toNat : Int) == 46) = b46) := hb46
      go_upto_if 62 with fail
      clear hb46
      go_cut [8] from 63 to 85 (fun i wx => i = .int .i64 (p : Int) ∧ w = wx)
      case first =>
        rcases HS.out.dot with hp | ⟨hp, h46, h48⟩
        · obtain rfl : k1 = p := by have := HK1.out; omega
          have hne : s[k1] ≠ 46 := by rw [HS.out.mark hk1s]; decide
          obtain rfl : b46 = false := by rw [← HB46.out]; exact beqv_no (n := 46) hne
          clear hne hp
          go_wp2_with fail
          go_meet
          case rel => exact ⟨rfl, rfl⟩
        · obtain rfl : b46 = true := by
            rw [← HB46.out]
            obtain rfl := HK1.out
            exact beqv_yes (n := 46) (h46 hk1s)
          have hp2 : k1 < p := by have := HK1.out; omega
          clear h46
          go_wp2_with fail
          go_loop [8] (fun i => ∃ q : Nat, k1 ≤ q ∧ q ≤ p ∧ i = .int .i64 q) (fun i => s.size - (intOf i).toNat)
          case atStart => exact ⟨k1, Nat.le_refl _, hk1p, rfl⟩
          case round =>
            obtain ⟨q, hkq, hqp, rfl⟩ := hrel
            have hqs : q < s.size := by omega
            by_cases hq : q = p
            · subst hq
              have b101 : ((s[q].toNat : Int) == 101) = true := beqv_yes (n := 101) (HS.out.mark hqs)
              obtain ⟨m, hm, hme⟩ : ∃ m : Nat, m = q - 1 ∧ (q : Int) - 1 = (m : Int) := ⟨q - 1, rfl, by omega⟩
              have hms : m < s.size := by omega
              have b48' : ((s[m].toNat : Int) == 48) = false := by subst hm; exact beqv_no (n := 48) (h48 hms)
              clear hm h48
              go_wp2_with fail
              go_meet
              case rel => exact ⟨rfl, rfl⟩
            · have b101 : ((s[q].toNat : Int) == 101) = false := beqv_no (n := 101) (HS.out.before q hqs (by omega))
              go_wp2_with fail
              go_round
              case rel => exact ⟨q + 1, by omega, by omega, by go_num⟩
              case measure => simp [intOf]; omega
      case rest =>
      obtain ⟨rfl, rfl⟩ := hcut
      clear HB46 hk1e HK1
      have hps0 : p < s.size := by omega
      have b101 : ((s[p].toNat : Int) == 101) = true := beqv_yes (n := 101) (HS.out.mark hps0)
      have n101 : ((s[p].toNat : Int) != 101) = false := by unfold bne; rw [b101]; rfl
      have hns : ¬ s.size ≤ p := by omega
      obtain ⟨q, hq, hqe⟩ : ∃ q : Nat, q = p + 1 ∧ (p : Int) + 1 = (q : Int) := ⟨p + 1, rfl, by omega⟩
      have hqs : q < s.size := by omega
      have hnq : ¬ s.size ≤ q := by omega
      have b43 : ((s[q].toNat : Int) == 43) = false := by subst hq; exact beqv_no (n := 43) (HS.out.plus hqs)
      rcases HS.out.zero with h | ⟨hp2, h45, h48⟩
      · have b45 : ((s[q].toNat : Int) == 45) = false := by subst hq; exact beqv_no (n := 45) (h hqs).1
        have b48 : ((s[q].toNat : Int) == 48) = false := by subst hq; exact beqv_no (n := 48) (h hqs).2
        clear h hq
        go_wp2_with fail
        go_ret
        exact ⟨ret_bool (by unfold bne; rw [b48]; rfl), rfl⟩
      · have b45 : ((s[q].toNat : Int) == 45) = true := by subst hq; exact beqv_yes (n := 45) (h45 hqs)
        obtain ⟨r, hr, hre⟩ : ∃ r : Nat, r = p + 2 ∧ (q : Int) + 1 = (r : Int) := ⟨p + 2, rfl, by omega⟩
        have hrs : r < s.size := by omega
        have b48 : ((s[r].toNat : Int) == 48) = false := by subst hr; exact beqv_no (n := 48) (h48 hrs)
        clear h45 h48 hr hq
        go_wp2_with fail
        go_ret
        exact ⟨ret_bool (by unfold bne; rw [b48]; rfl), rfl⟩
end Go.Proofs.Qxb6602256aDoor
