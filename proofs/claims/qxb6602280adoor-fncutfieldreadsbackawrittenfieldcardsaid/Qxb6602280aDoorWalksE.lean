/-
  bytes.TrimRightFunc, TrimFunc.
-/
import Derived.Test.Qxb6602280aDoorWalksD
namespace Go.Proofs.Qxb6602280aDoor
open Go.RowKit

/-- The first byte begins no space: ASCII and no blank, or a byte from 128 on that stands alone or ahead of an ASCII byte. -/
def Head (L : List UInt8) : Prop := ∃ (x : UInt8) (T : List UInt8), L = x :: T ∧ ((x.toNat < 128 ∧ blank x = false) ∨ (128 ≤ x.toNat ∧ (T = [] ∨ ∃ (y : UInt8) (U : List UInt8), T = y :: U ∧ y.toNat < 128)))
theorem blank_lt {c : UInt8} (h : blank c = true) : c.toNat < 128 := by
  simp only [blank, Bool.or_eq_true, beq_iff_eq] at h
  rcases h with ((((rfl | rfl) | rfl) | rfl) | rfl) | rfl <;> decide

set_option maxRecDepth 100000 in
set_option maxHeartbeats 2000000 in
theorem trimRight_any (b o c : Nat) (M B : List UInt8) (w : World) (hA : At w b o (M ++ B)) (hB : ∀ x ∈ B, blank x = true) (hM : Tail M) (hnc : M.length + B.length ≤ c) (hc : M.length + B.length ≤ 9000000000) (hT : Tabs w) :
    Calls Tryd.prog 49 #[.slice (some ⟨b, o, none⟩) (M.length + B.length) c, .func (.func 35) #[] #[]] w fun e w' => e = .returned (.slice (some ⟨b, o, none⟩) M.length c) ∧ Below w.heap.size w w' := by
  have hI := last_idx b o c M B w hA hB hM hnc hc hT
  obtain ⟨N, x, hMN, hx⟩ := hM
  obtain ⟨m, hm⟩ : ∃ m, N.length = m := ⟨_, rfl⟩
  obtain ⟨q, hq⟩ : ∃ q, B.length = q := ⟨_, rfl⟩
  have hMl : M.length = m + 1 := by rw [hMN, List.length_append, hm]; rfl
  have hxe : (M ++ B)[m]? = some x := by
    rw [List.getElem?_append_left (by omega), hMN, List.getElem?_append_right (by omega), hm]
    simp
  have hcell : w.cell? ⟨b, o + m, none⟩ = some (.int .u8 (x.toNat : Int)) := by
    obtain ⟨h1, h2⟩ := List.getElem?_eq_some_iff.1 hxe
    rw [← h2]
    exact hA m h1
  rw [hMl, hq] at hI hnc hc ⊢
  rw [show m + 1 - 1 = m by omega] at hI
  rcases hx with ⟨hx1, hx2⟩ | ⟨hx1, hx2⟩
  · have hx1' : ¬ (128 : Int) ≤ (x.toNat : Int) := by omega
    clear hB hA
    go_enter Tryd.func49, Tryd.ntmps49
    go_wp2_with (go_at_call 60; refine hI.mono ?_; rintro e w1 ⟨rfl, hb1⟩; have hc1 := cell_below hcell hb1)
    go_ret
    exact ⟨by simp, hb1⟩
  · have hx1' : (128 : Int) ≤ (x.toNat : Int) := by omega
    have hx3 : x.toNat < 256 := x.toNat_lt
    have hD : ∀ w1 : World, Below w.heap.size w w1 → Calls Tryd.prog 61 #[.slice (some ⟨b, o + m, none⟩) (1 + q) (c - m)] w1 fun e w' => e = .returned (.tuple #[.int .i32 65533, .int .i64 1]) ∧ Below w1.heap.size w1 w' := by
      intro w1 hb1
      refine decode_bad b (o + m) (1 + q) (c - m) x.toNat w1 hx1 hx3 (by omega) (by omega) (by omega) (cell_below hcell hb1) ?_ (hT.below hb1).u8
      rcases Nat.eq_zero_or_pos q with h0 | h0
      · left; omega
      · right
        have hlt : m + 1 < (M ++ B).length := by rw [List.length_append]; omega
        refine ⟨by omega, ((M ++ B)[m + 1]).toNat, ?_, cell_below (hA (m + 1) hlt) hb1⟩
        rw [List.getElem_append_right (by omega)]
        exact blank_lt (hB _ (List.getElem_mem _))
    clear hB hA hx2
    go_enter Tryd.func49, Tryd.ntmps49
    go_wp2_with (first
      | (go_at_call 60; refine hI.mono ?_; rintro e w1 ⟨rfl, hb1⟩; have hc1 := cell_below hcell hb1; have hD1 := hD _ hb1)
      | (go_at_call 61; rw [show m + 1 + q - m = 1 + q by omega]; refine hD1.mono ?_; rintro e w2 ⟨rfl, hb2⟩))
    go_ret
    exact ⟨by simp, below_then hb1 hb2⟩

set_option maxRecDepth 100000 in
set_option maxHeartbeats 2000000 in
theorem trimFunc_any (b o c : Nat) (M B : List UInt8) (w : World) (hA : At w b o (M ++ B)) (hB : ∀ x ∈ B, blank x = true) (hH : Head (M ++ B)) (hM : Tail M) (hnc : M.length + B.length ≤ c) (hc : M.length + B.length ≤ 9000000000) (hT : Tabs w) :
    Calls Tryd.prog 34 #[.slice (some ⟨b, o, none⟩) (M.length + B.length) c, .func (.func 35) #[] #[]] w fun e w' => e = .returned (.slice (some ⟨b, o, none⟩) M.length c) ∧ Below w.heap.size w w' := by
  obtain ⟨n, hn⟩ : ∃ n, M.length + B.length = n := ⟨_, rfl⟩
  have hlen : (M ++ B).length = n := by rw [List.length_append]; exact hn
  have hR := fun (W : World) (hb : Below w.heap.size w W) => trimRight_any b o c M B W (fun i hi => cell_below (hA i hi) hb) hB hM hnc hc (hT.below hb)
  obtain ⟨x, T, hL, hx⟩ := hH
  have hn1 : 1 ≤ n := by rw [← hlen, hL]; simp
  have hcell : w.cell? ⟨b, o, none⟩ = some (.int .u8 (x.toNat : Int)) := by
    have := hA 0 (by omega)
    simpa [hL] using this
  have hI : Calls Tryd.prog 62 #[.slice (some ⟨b, o, none⟩) n c, .func (.func 35) #[] #[], .bool false] w fun e w' => e = .returned (.int .i64 0) ∧ Below w.heap.size w w' := by
    rcases hx with ⟨hx1, hx2⟩ | ⟨hx1, hx2⟩
    · refine index_zero b o n c (x.toNat : Int) w hn1 (by omega) (by omega) (by omega) (by omega) (by rw [space_ascii x hx1, hx2]) hT ?_
      refine (decode_ascii b o n c x.toNat w hx1 hn1 hcell).mono ?_
      rintro e w' ⟨rfl, rfl⟩
      exact ⟨rfl, Below.refl _ _⟩
    · refine index_zero b o n c 65533 w hn1 (by omega) (by omega) (by omega) (by omega) space_bad hT ?_
      refine decode_bad b o n c x.toNat w hx1 x.toNat_lt hn1 (by omega) (by omega) hcell ?_ hT.u8
      rcases hx2 with h | ⟨y, U, h, hy⟩
      · left; rw [← hlen, hL, h]; rfl
      · right
        have hlt : 1 < (M ++ B).length := by rw [hL, h]; simp
        refine ⟨by omega, y.toNat, hy, ?_⟩
        have := hA 1 hlt
        simpa [hL, h] using this
  have hLf := trimLeft_keep b o n c w hn1 (by omega) (by omega) hI
  rw [hn] at hR ⊢
  clear hI hx hA hB hM hL hlen hn
  go_enter Tryd.func34, Tryd.ntmps34
  go_wp2_with (first
    | (go_at_call 50; refine hLf.mono ?_; rintro e w1 ⟨rfl, hb1⟩; have hR1 := hR _ hb1)
    | (go_at_call 49; refine hR1.mono ?_; rintro e w2 ⟨rfl, hb2⟩))
  go_ret
  exact ⟨rfl, below_then hb1 hb2⟩
end Go.Proofs.Qxb6602280aDoor
