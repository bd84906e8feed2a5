/-
  isPathComponent.
-/
import Derived.Test.Qxb6602733aDoorWalksA
import Derived.Test.Qxb6602733aDoorPlainB
namespace Go.Proofs.Qxb6602733aDoor
open Go.RowKit

theorem trim_any (s : ByteArray) (w : World) (hs : s.size ≤ 9223372036854775807) :
    Calls Tryd.prog 15 #[.string s, .string ⟨#[45]⟩] w fun e w' => e = .returned (.string ⟨(Lib.trimB s.data.toList 45).toArray⟩) ∧ Below w.heap.size w w' := by
  refine (Tryd.strings_Trim_one s 45 (by decide) w hs).mono ?_
  rintro e w' ⟨rfl, rfl | rfl⟩
  · exact ⟨rfl, Below.refl _ _⟩
  · exact ⟨rfl, (Below.refl _ _).drew⟩
theorem below_then {a b c : World} (h : Below a.heap.size a b) (k : Below b.heap.size b c) : Below a.heap.size a c := h.trans (k.mono h.size)

set_option maxRecDepth 100000 in
set_option maxHeartbeats 2000000 in
theorem pc_any (s : ByteArray) (w : World) (hs : s.size ≤ 9223372036854775807) :
    Calls Tryd.prog 12 #[.string s] w fun e w' => e = .returned (.bool (Pl.pc s.data.toList)) ∧ Below w.heap.size w w' := by
  have hsz := (show Hid _ from size_list s)
  go_enter Tryd.func12, Tryd.ntmps12
  go_wp2
  go_loopw [3, 4, 5, 6] (fun i _ _ _ wr => ∃ k : Nat, k ≤ s.size ∧ i = .int .i64 k ∧ Pl.Out s.data.toList k ∧ Below w.heap.size w wr) (fun i _ _ _ _ => s.size - (intOf i).toNat)
  case atStart => exact ⟨0, Nat.zero_le _, rfl, Pl.out_zero _, Below.refl _ _⟩
  case round =>
    obtain ⟨k, hk, rfl, hO, hb⟩ := hrel
    have HO : Hid (Pl.Out s.data.toList k) := hO
    clear hO
    by_cases hlt : k < s.size
    case neg =>
      go_wp2
      go_ret
      exact ⟨ret_bool (Pl.out_end HO.out (by rw [← hsz.out]; omega)).symm, hb⟩
    case pos =>
    go_wp2
    go_loop [4] (fun v => ∃ q : Nat, k ≤ q ∧ q ≤ s.size ∧ v = .int .i64 q ∧ Hid (∀ j (hj : j < s.data.toList.length), k ≤ j → j < q → Pl.al s.data.toList[j] = true)) (fun v => s.size - (intOf v).toNat)
    case atStart => exact ⟨k, Nat.le_refl _, hk, rfl, fun j _ h1 h2 => absurd h2 (by omega)⟩
    case round =>
      obtain ⟨q, hkq, hq, rfl, HA⟩ := hrel
      by_cases hqs : q < s.size
      case pos =>
        cases hal : Pl.al s[q] with
        | true =>
          have HAL : Hid (Pl.al s[q] = true) := hal
          clear hal
          go_wp2_with (go_at_call 14; refine (isLow_any _ _).mono ?_; rintro e w' ⟨rfl, rfl⟩; rw [HAL.out])
          go_round
          case rel =>
            refine ⟨q + 1, by omega, by omega, by go_num, fun j hj h1 h2 => ?_⟩
            by_cases e : j = q
            · subst e; exact HAL.out
            · exact HA.out j hj h1 (by omega)
          case measure => simp [intOf]; omega
        | false =>
          have HAL : Hid (Pl.al s[q] = false) := hal
          clear hal
          by_cases hqk : q = k
          · subst hqk
            go_wp2_with (go_at_call 14; refine (isLow_any _ _).mono ?_; rintro e w' ⟨rfl, rfl⟩; rw [HAL.out])
            go_ret
            exact ⟨ret_bool (Pl.out_bad HO.out (by rw [← hsz.out]; exact hqs) HAL.out).symm, hb⟩
          · have hqk2 : ((q : Int) == (k : Int)) = false := by rw [beq_eq_false_iff_ne]; omega
            have hqs2 : ((q : Int) == (s.size : Int)) = false := by rw [beq_eq_false_iff_ne]; omega
            have HR : Hid (Pl.run 0 (s.data.toList.take q) = 1) := Pl.word_run HO.out (by omega) (by rw [← hsz.out]; omega) HA.out
            clear HA HO
            go_wp2_with (go_at_call 14; refine (isLow_any _ _).mono ?_; rintro e w' ⟨rfl, rfl⟩; rw [HAL.out])
            go_loop [5] (fun v => ∃ r : Nat, q ≤ r ∧ r ≤ s.size ∧ v = .int .i64 r ∧ Hid (∀ j (hj : j < s.data.toList.length), q ≤ j → j < r → Pl.al s.data.toList[j] = false)) (fun v => s.size - (intOf v).toNat)
            case atStart => exact ⟨q, Nat.le_refl _, hq, rfl, fun j _ h1 h2 => absurd h2 (by omega)⟩
            case round =>
              obtain ⟨r, hqr, hr, rfl, HN⟩ := hrel
              obtain ⟨bb, hbb⟩ : ∃ bb : Bool, (if h : r < s.size then Pl.al s[r] else true) = bb := ⟨_, rfl⟩
              cases bb with
              | false =>
                obtain ⟨hrs, hal⟩ : ∃ h : r < s.size, Hid (Pl.al s[r] = false) := by
                  by_cases h : r < s.size
                  · rw [dif_pos h] at hbb; exact ⟨h, hbb⟩
                  · rw [dif_neg h] at hbb; cases hbb
                clear hbb
                go_wp2_with (go_at_call 14; refine (isLow_any _ _).mono ?_; rintro e w' ⟨rfl, rfl⟩; rw [hal.out])
                go_round
                case rel =>
                  refine ⟨r + 1, by omega, by omega, by go_num, fun j hj h1 h2 => ?_⟩
                  by_cases e : j = r
                  · subst e; exact hal.out
                  · exact HN.out j hj h1 (by omega)
                case measure => simp [intOf]; omega
              | true =>
                have HE : Hid (∀ h : r < s.size, Pl.al s[r] = true) := fun h => by rw [dif_pos h] at hbb; exact hbb
                clear hbb
                have hqr2 : q < r := by
                  rcases Nat.lt_or_eq_of_le hqr with h | h
                  · exact h
                  · subst h; have := HE.out hqs; rw [HAL.out] at this; cases this
                obtain ⟨L, hL⟩ : ∃ L, Pl.mid s.data.toList q r = L := ⟨_, rfl⟩
                have hX : s.extract q r = ⟨L.toArray⟩ := by rw [extract_list]; unfold Pl.mid at hL; rw [hL]
                have HL : Hid (Pl.mid s.data.toList q r = L) := hL
                have hLs : L.length ≤ s.size := by rw [← hL, Pl.mid, List.length_take, List.length_drop, ← hsz.out]; omega
                clear hL
                by_cases hrs : r < s.size
                case pos =>
                  go_upto_region 14 with (go_at_call 14; refine (isLow_any _ _).mono ?_; rintro e w' ⟨rfl, rfl⟩; rw [HE.out hrs])
                  go_cut [63] from 49 to 63 (fun t wx => ∃ w2, t = .bool (!Pl.sepOk L) ∧ Below w.heap.size w w2 ∧ w2 = wx)
                  case first =>
                    by_cases e1 : L = [46]
                    · subst e1
                      go_wp2_with fail
                      go_meet
                      case rel => exact ⟨_, rfl, hb, rfl⟩
                    have n1 : (ByteArray.mk L.toArray) ≠ ⟨#[46]⟩ := fun e => e1 (by simpa using congrArg (fun x : ByteArray => x.data.toList) e)
                    by_cases e2 : L = [95]
                    · subst e2
                      go_wp2_with fail
                      go_meet
                      case rel => exact ⟨_, rfl, hb, rfl⟩
                    have n2 : (ByteArray.mk L.toArray) ≠ ⟨#[95]⟩ := fun e => e2 (by simpa using congrArg (fun x : ByteArray => x.data.toList) e)
                    by_cases e3 : L = [95, 95]
                    · subst e3
                      go_wp2_with fail
                      go_meet
                      case rel => exact ⟨_, rfl, hb, rfl⟩
                    have n3 : (ByteArray.mk L.toArray) ≠ ⟨#[95, 95]⟩ := fun e => e3 (by simpa using congrArg (fun x : ByteArray => x.data.toList) e)
                    have hC := fun (W : World) => trim_any ⟨L.toArray⟩ W (by show L.length ≤ _; omega)
                    have hT := Pl.trim_dash L
                    rw [show (ByteArray.mk L.toArray).data.toList = L from rfl] at hC
                    have hso : Pl.sepOk L = decide (∀ c ∈ L, c = 45) := by simp [Pl.sepOk, e1, e2, e3]
                    by_cases hd : ∀ c ∈ L, c = 45
                    · rw [hT.2 hd] at hC
                      have HSO : Hid (Pl.sepOk L = true) := by show _ = _; rw [hso]; exact decide_eq_true hd
                      clear hd hT hso
                      go_wp2_with (go_at_call 15; refine (hC _).mono ?_; rintro e w2 ⟨rfl, hb2⟩)
                      go_meet
                      case rel => exact ⟨_, by rw [HSO.out]; rfl, below_then hb hb2, rfl⟩
                    · obtain ⟨T, hTT⟩ : ∃ T, Lib.trimB L 45 = T := ⟨_, rfl⟩
                      have hT0 : T ≠ [] := fun e => hd (hT.1 (hTT.trans e))
                      rw [hTT] at hC
                      have HSO : Hid (Pl.sepOk L = false) := by show _ = _; rw [hso]; exact decide_eq_false hd
                      clear hd hT hso hTT
                      go_wp2_with (go_at_call 15; refine (hC _).mono ?_; rintro e w2 ⟨rfl, hb2⟩)
                      go_meet
                      case rel => exact ⟨_, by rw [HSO.out]; simp [hT0, e1, e2, e3], below_then hb hb2, rfl⟩
                  case rest =>
                  clear hb
                  obtain ⟨w2, rfl, hb, rfl⟩ := hcut
                  cases hso : Pl.sepOk L with
                  | true =>
                    have HSO : Hid (Pl.sepOk L = true) := hso
                    clear hso hX
                    go_wp2_with fail
                    go_round
                    case rel =>
                      refine ⟨r, hr, rfl, Pl.sep_ok HR.out hqr2 (by rw [← hsz.out]; exact hr) HN.out (by rw [HL.out]; exact HSO.out) (fun h => HE.out (by rw [hsz.out]; exact h)), hb⟩
                    case measure => simp [intOf]; omega
                  | false =>
                    have HSO : Hid (Pl.sepOk L = false) := hso
                    clear hso hX
                    go_wp2_with fail
                    go_ret
                    exact ⟨ret_bool (Pl.sep_bad HR.out hqr2 (by rw [← hsz.out]; exact hr) HN.out (by rw [HL.out]; exact HSO.out)).symm, hb⟩
                case neg =>
                  go_upto_region 14 with fail
                  go_cut [63] from 49 to 63 (fun t wx => ∃ w2, t = .bool (!Pl.sepOk L) ∧ Below w.heap.size w w2 ∧ w2 = wx)
                  case first =>
                    by_cases e1 : L = [46]
                    · subst e1
                      go_wp2_with fail
                      go_meet
                      case rel => exact ⟨_, rfl, hb, rfl⟩
                    have n1 : (ByteArray.mk L.toArray) ≠ ⟨#[46]⟩ := fun e => e1 (by simpa using congrArg (fun x : ByteArray => x.data.toList) e)
                    by_cases e2 : L = [95]
                    · subst e2
                      go_wp2_with fail
                      go_meet
                      case rel => exact ⟨_, rfl, hb, rfl⟩
                    have n2 : (ByteArray.mk L.toArray) ≠ ⟨#[95]⟩ := fun e => e2 (by simpa using congrArg (fun x : ByteArray => x.data.toList) e)
                    by_cases e3 : L = [95, 95]
                    · subst e3
                      go_wp2_with fail
                      go_meet
                      case rel => exact ⟨_, rfl, hb, rfl⟩
                    have n3 : (ByteArray.mk L.toArray) ≠ ⟨#[95, 95]⟩ := fun e => e3 (by simpa using congrArg (fun x : ByteArray => x.data.toList) e)
                    have hC := fun (W : World) => trim_any ⟨L.toArray⟩ W (by show L.length ≤ _; omega)
                    have hT := Pl.trim_dash L
                    rw [show (ByteArray.mk L.toArray).data.toList = L from rfl] at hC
                    have hso : Pl.sepOk L = decide (∀ c ∈ L, c = 45) := by simp [Pl.sepOk, e1, e2, e3]
                    by_cases hd : ∀ c ∈ L, c = 45
                    · rw [hT.2 hd] at hC
                      have HSO : Hid (Pl.sepOk L = true) := by show _ = _; rw [hso]; exact decide_eq_true hd
                      clear hd hT hso
                      go_wp2_with (go_at_call 15; refine (hC _).mono ?_; rintro e w2 ⟨rfl, hb2⟩)
                      go_meet
                      case rel => exact ⟨_, by rw [HSO.out]; rfl, below_then hb hb2, rfl⟩
                    · obtain ⟨T, hTT⟩ : ∃ T, Lib.trimB L 45 = T := ⟨_, rfl⟩
                      have hT0 : T ≠ [] := fun e => hd (hT.1 (hTT.trans e))
                      rw [hTT] at hC
                      have HSO : Hid (Pl.sepOk L = false) := by show _ = _; rw [hso]; exact decide_eq_false hd
                      clear hd hT hso hTT
                      go_wp2_with (go_at_call 15; refine (hC _).mono ?_; rintro e w2 ⟨rfl, hb2⟩)
                      go_meet
                      case rel => exact ⟨_, by rw [HSO.out]; simp [hT0, e1, e2, e3], below_then hb hb2, rfl⟩
                  case rest =>
                  clear hb
                  obtain ⟨w2, rfl, hb, rfl⟩ := hcut
                  cases hso : Pl.sepOk L with
                  | true =>
                    have HSO : Hid (Pl.sepOk L = true) := hso
                    clear hso hX
                    go_wp2_with fail
                    go_round
                    case rel =>
                      refine ⟨r, hr, rfl, Pl.sep_ok HR.out hqr2 (by rw [← hsz.out]; exact hr) HN.out (by rw [HL.out]; exact HSO.out) (fun h => HE.out (by rw [hsz.out]; exact h)), hb⟩
                    case measure => simp [intOf]; omega
                  | false =>
                    have HSO : Hid (Pl.sepOk L = false) := hso
                    clear hso hX
                    go_wp2_with fail
                    go_ret
                    exact ⟨ret_bool (Pl.sep_bad HR.out hqr2 (by rw [← hsz.out]; exact hr) HN.out (by rw [HL.out]; exact HSO.out)).symm, hb⟩
      case neg =>
        obtain rfl : q = s.size := by omega
        have hqk2 : ((s.size : Int) == (k : Int)) = false := by rw [beq_eq_false_iff_ne]; omega
        go_wp2_with fail
        go_ret
        refine ⟨ret_bool (Pl.word_end (q := s.size) (Pl.word_run HO.out hlt (by rw [← hsz.out]; omega) HA.out) (by rw [← hsz.out]; omega)).symm, hb⟩
end Go.Proofs.Qxb6602733aDoor
