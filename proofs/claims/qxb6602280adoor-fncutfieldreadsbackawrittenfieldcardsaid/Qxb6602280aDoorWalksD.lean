/-
  bytes.TrimLeftFunc, utf8.DecodeLastRune, bytes.lastIndexFunc, TrimRightFunc, TrimFunc.
-/
import Derived.Test.Qxb6602280aDoorWalksC
import Derived.Test.Qxb6602280aDoorShelfB
namespace Go.Proofs.Qxb6602280aDoor
open Go.RowKit

set_option maxRecDepth 100000 in
set_option maxHeartbeats 1000000 in
theorem trimLeft_keep (b o n c : Nat) (w : World) (hn : 1 ≤ n) (hnc : n ≤ c) (hc : n ≤ 9000000000)
    (hI : Calls Tryd.prog 62 #[.slice (some ⟨b, o, none⟩) n c, .func (.func 35) #[] #[], .bool false] w fun e w' => e = .returned (.int .i64 0) ∧ Below w.heap.size w w') :
    Calls Tryd.prog 50 #[.slice (some ⟨b, o, none⟩) n c, .func (.func 35) #[] #[]] w fun e w' => e = .returned (.slice (some ⟨b, o, none⟩) n c) ∧ Below w.heap.size w w' := by
  go_enter Tryd.func50, Tryd.ntmps50
  go_wp2_with (go_at_call 62; refine hI.mono ?_; rintro e w1 ⟨rfl, hb1⟩)
  go_ret
  exact ⟨rfl, hb1⟩

theorem start_ascii {y : Nat} (h : y < 128) : Lib.runeStart (y : Int) = true := by
  have : ∀ z : Fin 128, Lib.runeStart (z.val : Int) = true := by decide +kernel
  exact this ⟨y, h⟩
set_option maxRecDepth 100000 in
set_option maxHeartbeats 1000000 in
/-- The last byte is no rune's end: behind an ASCII byte. -/
theorem last_bad (b o n c z y : Nat) (w : World) (hz : 128 ≤ z) (hz2 : z < 256) (hy : y < 128) (hn : 2 ≤ n) (hnc : n ≤ c) (hc : n ≤ 9000000000)
    (h0 : w.cell? ⟨b, o + (n - 1), none⟩ = some (.int .u8 (z : Int))) (h1 : w.cell? ⟨b, o + (n - 2), none⟩ = some (.int .u8 (y : Int))) :
    Calls Tryd.prog 68 #[.slice (some ⟨b, o, none⟩) n c] w fun e w' => e = .returned (.tuple #[.int .i32 65533, .int .i64 1]) ∧ Below w.heap.size w w' := by
  obtain ⟨m, rfl⟩ : ∃ m, n = m + 2 := ⟨n - 2, by omega⟩
  rw [show m + 2 - 1 = m + 1 by omega] at h0
  rw [show m + 2 - 2 = m by omega] at h1
  have hzz : ¬ z < 128 := by omega
  have hD := decode_ascii b (o + m) 2 (c - m) y w hy (by omega) h1
  have hR := fun W => Tryd.utf8_RuneStart (y : Int) W (by omega) (by omega)
  rw [start_ascii hy] at hR
  go_enter Tryd.func68, Tryd.ntmps68
  go_wp2
  go_loop [5] (fun i => i = .int .i64 (m : Int)) (fun _ => 0)
  case atStart => go_num
  case round =>
    obtain rfl := hrel
    have hge : max ((m : Int) + 2 - 4) 0 ≤ (m : Int) := by omega
    have hsub : (m : Int) + 2 - (m : Int) = 2 := by omega
    go_wp2_with (first
      | (go_at_call 71; refine (hR _).mono ?_; rintro e w' ⟨rfl, rfl⟩)
      | (go_at_call 61; refine hD.mono ?_; rintro e w' ⟨rfl, rfl⟩))
    exact bodyPost_ret (v := .tuple #[.int .i32 65533, .int .i64 1]) (by simp [results, Tryd.results68, go_sem]) rfl ⟨rfl, Below.refl _ _⟩
set_option maxRecDepth 100000 in
set_option maxHeartbeats 1000000 in
/-- .. or alone. -/
theorem last_one (b o c z : Nat) (w : World) (hz : 128 ≤ z) (hz2 : z < 256) (hnc : 1 ≤ c)
    (h0 : w.cell? ⟨b, o, none⟩ = some (.int .u8 (z : Int))) (hT : Tabs w) :
    Calls Tryd.prog 68 #[.slice (some ⟨b, o, none⟩) 1 c] w fun e w' => e = .returned (.tuple #[.int .i32 65533, .int .i64 1]) ∧ Below w.heap.size w w' := by
  have hzz : ¬ z < 128 := by omega
  have hD := decode_bad b o 1 c z w hz hz2 (by omega) hnc (by omega) h0 (Or.inl rfl) hT.u8
  clear hT
  go_enter Tryd.func68, Tryd.ntmps68
  go_wp2
  go_loop [5] (fun i => i = .int .i64 (-1)) (fun _ => 0)
  case atStart => go_num
  case round =>
    obtain rfl := hrel
    go_wp2_with (go_at_call 61; refine hD.mono ?_; rintro e w1 ⟨rfl, hb⟩)
    exact bodyPost_ret (v := .tuple #[.int .i32 65533, .int .i64 1]) (by simp [results, Tryd.results68, go_sem]) rfl ⟨rfl, hb⟩

theorem space_ascii (c : UInt8) (h : c.toNat < 128) : Lib.isSpaceZ (c.toNat : Int) = blank c := by
  have : ∀ z : Fin 128, Lib.isSpaceZ (z.val : Int) = blank (UInt8.ofNat z.val) := by decide +kernel
  have h2 := this ⟨c.toNat, h⟩
  simpa using h2
theorem space_bad : Lib.isSpaceZ 65533 = false := by decide +kernel
/-- The last byte of M is no space's end: ASCII and no blank, or a byte from 128 on that stands alone or behind an ASCII byte. -/
def Tail (M : List UInt8) : Prop := ∃ (N : List UInt8) (x : UInt8), M = N ++ [x] ∧ ((x.toNat < 128 ∧ blank x = false) ∨ (128 ≤ x.toNat ∧ (N = [] ∨ ∃ (K : List UInt8) (y : UInt8), N = K ++ [y] ∧ y.toNat < 128)))
set_option maxRecDepth 100000 in
set_option maxHeartbeats 2000000 in
theorem last_idx (b o c : Nat) (M B : List UInt8) (w : World) (hA : At w b o (M ++ B)) (hB : ∀ x ∈ B, blank x = true) (hM : Tail M) (hnc : M.length + B.length ≤ c) (hc : M.length + B.length ≤ 9000000000) (hT : Tabs w) :
    Calls Tryd.prog 60 #[.slice (some ⟨b, o, none⟩) (M.length + B.length) c, .func (.func 35) #[] #[], .bool false] w fun e w' => e = .returned (.int .i64 ((M.length - 1 : Nat) : Int)) ∧ Below w.heap.size w w' := by
  obtain ⟨N, x, hMN, hx⟩ := hM
  obtain ⟨m, hm⟩ : ∃ m, N.length = m := ⟨_, rfl⟩
  obtain ⟨q, hq⟩ : ∃ q, B.length = q := ⟨_, rfl⟩
  have hMl : M.length = m + 1 := by rw [hMN, List.length_append, hm]; rfl
  have hall : (M ++ B).length = m + 1 + q := by rw [List.length_append, hMl, hq]
  have HA : Hid (At w b o (M ++ B)) := hA
  have hbl : ∀ k, m + 1 ≤ k → (h : k < (M ++ B).length) → blank (M ++ B)[k] = true := fun k h1 h => by
    rw [List.getElem_append_right (by omega)]
    exact hB _ (List.getElem_mem _)
  have hxe : (h : m < (M ++ B).length) → (M ++ B)[m] = x := fun h => by
    rw [List.getElem_append_left (by omega)]
    subst hMN
    rw [List.getElem_append_right (by omega)]
    simp [hm]
  have HBL := (show Hid _ from hbl)
  have HXE := (show Hid _ from hxe)
  rw [hMl, hq] at hnc hc ⊢
  rw [show m + 1 - 1 = m by omega]
  clear hbl hxe hB hA
  go_enter Tryd.func60, Tryd.ntmps60
  go_wp2
  go_loopw [7, 8, 9] (fun i _ _ wr => ∃ k : Nat, m + 1 ≤ k ∧ k ≤ m + 1 + q ∧ i = .int .i64 (k : Int) ∧ Below w.heap.size w wr) (fun i _ _ _ => (intOf i).toNat)
  case atStart => exact ⟨m + 1 + q, by omega, Nat.le_refl _, by go_num, Below.refl _ _⟩
  case round =>
    obtain ⟨k, hk1, hk2, rfl, hb⟩ := hrel
    have hTr := hT.below hb
    obtain ⟨j, hj, hje⟩ : ∃ j : Nat, k = j + 1 ∧ (k : Int) - 1 = (j : Int) := ⟨k - 1, by omega, by omega⟩
    have hcell := cell_below (HA.out j (by omega)) hb
    have hk0 : (0 : Int) < (k : Int) := by omega
    have HJ : Hid (k = j + 1) := hj
    by_cases hkm : k = m + 1
    · have hjm : j = m := by omega
      subst hjm
      rw [HXE.out (by omega)] at hcell
      have HKM : Hid (k = j + 1) := hkm
      clear hkm hj
      rcases hx with ⟨hx1, hx2⟩ | ⟨hx1, hx2⟩
      · have hsp := space_ascii x hx1
        rw [hx2] at hsp
        have hC := fun W hW => space_any (x.toNat : Int) W (by omega) (by omega) hW
        rw [hsp] at hC
        have hx1' : ¬ (128 : Int) ≤ (x.toNat : Int) := by omega
        clear hsp
        go_wp2_with (go_at_call 35; refine (hC _ hTr).mono ?_; rintro e w2 ⟨rfl, hb2⟩)
        go_ret
        exact ⟨rfl, below_then hb hb2⟩
      · have hL : Calls Tryd.prog 68 #[.slice (some ⟨b, o, none⟩) k c] wr fun e w' => e = .returned (.tuple #[.int .i32 65533, .int .i64 1]) ∧ Below wr.heap.size wr w' := by
          obtain rfl := HKM.out
          rcases hx2 with hN | ⟨K, y, hN, hy⟩
          · have hj0 : j = 0 := by rw [← hm, hN]; rfl
            subst hj0
            exact last_one b o c x.toNat wr hx1 x.toNat_lt (by omega) hcell hTr
          · have hj1 : j = K.length + 1 := by rw [← hm, hN]; simp
            have hcy := cell_below (HA.out (j - 1) (by omega)) hb
            have ey : (M ++ B)[j - 1]'(by omega) = y := by
              rw [List.getElem_append_left (by omega)]
              subst hMN hN
              rw [List.getElem_append_left (by simp only [List.length_append, List.length_cons, List.length_nil]; omega), List.getElem_append_right (by omega)]
              simp [hj1]
            rw [ey] at hcy
            refine last_bad b o (j + 1) c x.toNat y.toNat wr hx1 x.toNat_lt hy (by omega) (by omega) (by omega) ?_ ?_
            · rw [show j + 1 - 1 = j by omega]; exact hcell
            · rw [show j + 1 - 2 = j - 1 by omega]; exact hcy
        have hC := fun W hW => space_any 65533 W (by omega) (by omega) hW
        rw [space_bad] at hC
        have hx1' : (128 : Int) ≤ (x.toNat : Int) := by omega
        have hx3 : x.toNat < 256 := x.toNat_lt
        clear hx2
        go_wp2_with (first
          | (go_at_call 68; refine hL.mono ?_; rintro e w1 ⟨rfl, hb1⟩; have hT1 := hTr.below hb1)
          | (go_at_call 35; refine (hC _ hT1).mono ?_; rintro e w2 ⟨rfl, hb2⟩))
        go_ret
        exact ⟨rfl, below_then hb (below_then hb1 hb2)⟩
    · have hbk := HBL.out j (by omega) (by omega)
      obtain ⟨y, hy⟩ : ∃ y, (M ++ B)[j]'(by omega) = y := ⟨_, rfl⟩
      rw [hy] at hbk hcell
      have hy1 : y.toNat < 128 := by
        simp only [blank, Bool.or_eq_true, beq_iff_eq] at hbk
        rcases hbk with ((((rfl | rfl) | rfl) | rfl) | rfl) | rfl <;> decide
      have hsp := space_ascii y hy1
      rw [hbk] at hsp
      have hC := fun W hW => space_any (y.toNat : Int) W (by omega) (by omega) hW
      rw [hsp] at hC
      have hy1' : ¬ (128 : Int) ≤ (y.toNat : Int) := by omega
      have hjr : m + 1 ≤ j ∧ j ≤ m + 1 + q := by omega
      clear hsp hbk hy hkm hj hx
      go_wp2_with (go_at_call 35; refine (hC _ hTr).mono ?_; rintro e w2 ⟨rfl, hb2⟩)
      go_round
      case rel => exact ⟨j, hjr.1, hjr.2, rfl, below_then hb hb2⟩
      case measure => have := HJ.out; simp [intOf]; omega
end Go.Proofs.Qxb6602280aDoor
