/-
  bytes.TrimSpace.
-/
import Derived.Test.Qxb6602280aDoorWalksE
namespace Go.Proofs.Qxb6602280aDoor
open Go.RowKit

set_option maxRecDepth 100000 in
set_option maxHeartbeats 2000000 in
/-- All blank: nil. -/
theorem trim_blank (b o c : Nat) (A : List UInt8) (w : World) (hAt : At w b o A) (hA : ∀ x ∈ A, blank x = true) (hc : A.length ≤ 9000000000) (hT : Tabs w) :
    Calls Tryd.prog 28 #[.slice (some ⟨b, o, none⟩) A.length c] w fun e w' => e = .returned (.slice none 0 0) ∧ w' = w := by
  have HAT : Hid (At w b o A) := hAt
  have HA : Hid (∀ x ∈ A, blank x = true) := hA
  have HT : Hid (∀ c : UInt8, w.cell? ⟨0, c.toNat, none⟩ = some (.int .u8 (if blank c = true then 1 else 0))) := hT.sp
  clear hAt hA hT
  go_enter Tryd.func28, Tryd.ntmps28
  go_wp2
  go_loop [9, 0, 3, 4, 5, 6] (fun i s0 _ _ _ _ => s0 = .slice (some ⟨b, o, none⟩) A.length c ∧ ∃ k : Nat, k ≤ A.length ∧ i = .int .i64 k) (fun i _ _ _ _ _ => A.length - (intOf i).toNat)
  case atStart => exact ⟨rfl, 0, Nat.zero_le _, rfl⟩
  case round =>
    obtain ⟨rfl, k, hk, rfl⟩ := hrel
    by_cases hlt : k < A.length
    · have hcell := HAT.out k hlt
      have hbl := HA.out _ (List.getElem_mem hlt)
      obtain ⟨x, hx⟩ : ∃ x, A[k] = x := ⟨_, rfl⟩
      rw [hx] at hcell hbl
      have hx1 := blank_lt hbl
      have htab := HT.out x
      rw [if_pos hbl] at htab
      have hx2 : ¬ (128 : Int) ≤ (x.toNat : Int) := by omega
      clear hx hbl
      go_wp2
      exact ⟨⟨rfl, k + 1, by omega, by go_num⟩, by simp [intOf]; omega⟩
    · go_wp2
      go_ret
      exact ⟨rfl, rfl⟩

set_option maxRecDepth 100000 in
set_option maxHeartbeats 4000000 in
theorem trim_any (b o c : Nat) (A M B : List UInt8) (w : World) (hAt : At w b o (A ++ (M ++ B))) (hA : ∀ x ∈ A, blank x = true) (hB : ∀ x ∈ B, blank x = true) (hH : Head (M ++ B)) (hM : Tail M)
    (hnc : A.length + (M.length + B.length) ≤ c) (hc : A.length + (M.length + B.length) ≤ 9000000000) (hT : Tabs w) :
    Calls Tryd.prog 28 #[.slice (some ⟨b, o, none⟩) (A.length + (M.length + B.length)) c] w fun e w' => e = .returned (.slice (some ⟨b, o + A.length, none⟩) M.length (c - A.length)) ∧ Below w.heap.size w w' := by
  have hAt2 : At w b (o + A.length) (M ++ B) := by
    have := hAt.drop A.length
    rwa [List.drop_left] at this
  have hF1 := trimFunc_any b (o + A.length) (c - A.length) M B w hAt2 hB hH hM (by omega) (by omega) hT
  have hMl : 1 ≤ M.length := by obtain ⟨N, x, h, _⟩ := hM; rw [h]; simp
  obtain ⟨x, T, hL, hx⟩ := hH
  have hF2 : x.toNat < 128 ∧ blank x = false → Calls Tryd.prog 34 #[.slice (some ⟨b, o + A.length, none⟩) M.length (c - A.length), .func (.func 35) #[] #[]] w fun e w' => e = .returned (.slice (some ⟨b, o + A.length, none⟩) M.length (c - A.length)) ∧ Below w.heap.size w w' := by
    intro hxx
    have hh : Head (M ++ []) := by
      cases hMc : M with
      | nil => rw [hMc] at hMl; simp at hMl
      | cons z Z =>
        rw [hMc] at hL
        simp only [List.cons_append, List.cons.injEq] at hL
        exact ⟨z, Z, by simp, Or.inl (by rw [hL.1]; exact hxx)⟩
    have h1 : At w b (o + A.length) (M ++ []) := by
      have := hAt2.take M.length
      rw [List.take_left] at this
      simpa using this
    exact trimFunc_any b (o + A.length) (c - A.length) M [] w h1 (fun _ h => by cases h) hh hM (by simp; omega) (by simp; omega) hT
  have hxcell : w.cell? ⟨b, o + A.length, none⟩ = some (.int .u8 (x.toNat : Int)) := by
    have := hAt2 0 (by rw [hL]; simp)
    simpa [hL] using this
  have HT : Hid (∀ c : UInt8, w.cell? ⟨0, c.toNat, none⟩ = some (.int .u8 (if blank c = true then 1 else 0))) := hT.sp
  have HAT : Hid (∀ k (h : k < A.length), w.cell? ⟨b, o + k, none⟩ = some (.int .u8 (A[k].toNat : Int))) := fun k h => by
    have := hAt k (by rw [List.length_append]; omega)
    rwa [List.getElem_append_left h] at this
  have HA : Hid (∀ x ∈ A, blank x = true) := hA
  have HA2 : Hid (At w b (o + A.length) (M ++ B)) := hAt2
  have HX : Hid ((x.toNat < 128 ∧ blank x = false) ∨ 128 ≤ x.toNat) := by
    rcases hx with h | h
    · exact Or.inl h
    · exact Or.inr h.1
  obtain ⟨a, ha⟩ : ∃ a, A.length = a := ⟨_, rfl⟩
  obtain ⟨N, z, hMN, hz⟩ := hM
  obtain ⟨m, hm⟩ : ∃ m, M.length = m + 1 := ⟨M.length - 1, by omega⟩
  obtain ⟨q, hq⟩ : ∃ q, B.length = q := ⟨_, rfl⟩
  have HZ : Hid ((z.toNat < 128 ∧ blank z = false) ∨ 128 ≤ z.toNat) := by
    rcases hz with h | h
    · exact Or.inl h
    · exact Or.inr h.1
  have HLAST : Hid (∀ h : m < (M ++ B).length, (M ++ B)[m] = z) := fun h => by
    rw [List.getElem_append_left (by omega)]
    subst hMN
    rw [List.length_append] at hm
    simp at hm
    rw [List.getElem_append_right (by omega)]
    simp [hm]
  have HBL : Hid (∀ j, m + 1 ≤ j → (h : j < (M ++ B).length) → blank (M ++ B)[j] = true) := fun j h1 h => by
    rw [List.getElem_append_right (by omega)]
    exact hB _ (List.getElem_mem _)
  have hlen : (M ++ B).length = m + 1 + q := by rw [List.length_append, hm, hq]
  rw [ha, hm, hq] at hF1 hnc hc ⊢
  rw [ha, hm] at hF2
  rw [ha] at hxcell
  rw [ha] at HA2
  clear hx hz hMN hAt hAt2 hA hB hL hMl hT
  go_enter Tryd.func28, Tryd.ntmps28
  go_wp2
  go_loop [9, 0, 3, 4, 5, 6] (fun i s0 _ _ _ _ => s0 = .slice (some ⟨b, o, none⟩) (a + (m + 1 + q)) c ∧ ∃ k : Nat, k ≤ a ∧ i = .int .i64 k) (fun i _ _ _ _ _ => a + (m + 1 + q) - (intOf i).toNat)
  case atStart => exact ⟨rfl, 0, Nat.zero_le _, rfl⟩
  case round =>
    obtain ⟨rfl, k, hk, rfl⟩ := hrel
    by_cases hlt : k < a
    · have hcell := HAT.out k (by omega)
      have hbl := HA.out _ (List.getElem_mem (show k < A.length by omega))
      obtain ⟨y, hy⟩ : ∃ y, A[k]'(by omega) = y := ⟨_, rfl⟩
      rw [hy] at hcell hbl
      have hy1 := blank_lt hbl
      have htab := HT.out y
      rw [if_pos hbl] at htab
      have hy2 : ¬ (128 : Int) ≤ (y.toNat : Int) := by omega
      clear hy hbl hF1 hF2
      go_wp2
      exact ⟨⟨rfl, k + 1, by omega, by go_num⟩, by simp [intOf]; omega⟩
    · obtain rfl : k = a := by omega
      have hkn : k < k + (m + 1 + q) := by omega
      rcases HX.out with ⟨hx1, hx2⟩ | hx1
      · have hF := hF2 ⟨hx1, hx2⟩
        have htab := HT.out x
        rw [if_neg (by rw [hx2]; decide)] at htab
        have hxn : ¬ (128 : Int) ≤ (x.toNat : Int) := by omega
        clear hF1 hF2
        go_wp2
        go_loop [5, 6] (fun i _ => ∃ j : Nat, m ≤ j ∧ j < m + 1 + q ∧ i = .int .i64 (j : Int)) (fun i _ => (intOf i).toNat)
        case atStart => exact ⟨m + q, by omega, by omega, by go_num⟩
        case round =>
          obtain ⟨j, hj1, hj2, rfl⟩ := hrel
          have hcj := HA2.out j (by rw [hlen]; exact hj2)
          have hj0 : (0 : Int) ≤ (j : Int) := by omega
          by_cases hjm : j = m
          · subst hjm
            rw [HLAST.out (by rw [hlen]; exact hj2)] at hcj
            rcases HZ.out with ⟨hz1, hz2⟩ | hz1
            · have htz := HT.out z
              rw [if_neg (by rw [hz2]; decide)] at htz
              have hzn : ¬ (128 : Int) ≤ (z.toNat : Int) := by omega
              go_wp2
              go_ret
              exact ⟨rfl, Below.refl _ _⟩
            · have hzn : (128 : Int) ≤ (z.toNat : Int) := by omega
              go_wp2_with (go_at_call 34; refine hF.mono ?_; rintro e w1 ⟨rfl, hb1⟩)
              go_ret
              exact ⟨rfl, hb1⟩
          · have hbl := HBL.out j (by omega) (by rw [hlen]; exact hj2)
            obtain ⟨y, hy⟩ : ∃ y, (M ++ B)[j]'(by rw [hlen]; exact hj2) = y := ⟨_, rfl⟩
            rw [hy] at hcj hbl
            have hy1 := blank_lt hbl
            have hty := HT.out y
            rw [if_pos hbl] at hty
            have hyn : ¬ (128 : Int) ≤ (y.toNat : Int) := by omega
            obtain ⟨i, hi, hie⟩ : ∃ i : Nat, j = i + 1 ∧ (j : Int) - 1 = (i : Int) := ⟨j - 1, by omega, by omega⟩
            have hi2 : m ≤ i ∧ i < m + 1 + q := by omega
            have HI : Hid (j = i + 1) := hi
            clear hy hbl hi hjm
            go_wp2
            go_round
            case rel => exact ⟨i, hi2.1, hi2.2, rfl⟩
            case measure => have := HI.out; simp [intOf]; omega
      · have hxn : (128 : Int) ≤ (x.toNat : Int) := by omega
        have hsub : k + (m + 1 + q) - k = m + 1 + q := by omega
        clear hF2
        go_wp2_with (go_at_call 34; (try rw [hsub]); refine hF1.mono ?_; rintro e w1 ⟨rfl, hb1⟩)
        go_ret
        exact ⟨rfl, hb1⟩
end Go.Proofs.Qxb6602280aDoor
