/-
  FnParseDecimalStringRoundTrip: the walk of the law.
-/
import Derived.Test.Qxb6602256aDoorPlainS
import Derived.Test.Qxb6602256aDoorWalksJ
import Derived.Test.Qxb6602256aDoorWalksR
namespace Go.Proofs.Qxb6602256aDoor
open Go.RowKit

namespace Pl
theorem stripR_part (l : List UInt8) : ∃ t, stripR l ++ t = l := by
  refine ⟨(l.reverse.takeWhile (· == (48 : UInt8))).reverse, ?_⟩
  unfold stripR Lib.trimRightB
  rw [← List.reverse_append, List.takeWhile_append_dropWhile, List.reverse_reverse]
theorem stripR_last (l : List UInt8) : (stripR l).getLast? ≠ some 48 := by
  unfold stripR Lib.trimRightB
  rw [List.getLast?_reverse]
  exact strip_head _
theorem digs_of {n : Num} (hn : n.Ok) (h0 : n.digits ≠ []) : Digs n.digits := by
  obtain ⟨t, ht⟩ := stripR_part n.sig
  have hs : AllD n.sig := strip_all (hn.intd.append hn.fracd)
  have hs2 : AllD (stripR n.sig) := by rw [← ht] at hs; exact hs.left
  refine ⟨hs2, h0, ?_, stripR_last _⟩
  have hh := strip_head n.all
  have e : (stripR n.sig).head? = n.sig.head? := by
    obtain ⟨c, r, h⟩ := List.exists_cons_of_ne_nil (show stripR n.sig ≠ [] from h0)
    rw [h] at ht ⊢
    rw [← ht]
    rfl
  show (stripR n.sig).head? ≠ some 48
  rw [e]
  exact hh
theorem of_dec {n : Num} (hn : n.Ok) (h0 : n.digits ≠ []) : Of n.dec n.total ∧ n.dec.norm = n.dec ∧ n.dec.digits = n.digits := by
  unfold Num.dec
  rw [if_neg h0]
  cases hf : fits n.total with
  | true => exact ⟨⟨digs_of hn h0, Or.inl ⟨rfl, rfl, hf⟩⟩, rfl, rfl⟩
  | false => exact ⟨⟨digs_of hn h0, Or.inr ⟨rfl, hf⟩⟩, by simp [Dec.norm, itxt_ne], rfl⟩
theorem pow_big (a : Nat) : 10 ^ a + 9000000 < 10 ^ (a + 8) := by
  have := pow_pos10 a
  rw [Nat.pow_add]
  omega
theorem itxt_len {z : Int} {k : Nat} (h0 : 0 < k) (h : z.natAbs < 10 ^ k) : (itxt z).length ≤ k + 1 := by
  have hl : (Lib.decDigits z.natAbs).length ≤ k := by
    by_cases hz : z.natAbs = 0
    · rw [hz]
      have : Lib.decDigits 0 = [48] := by rw [Lib.decDigits, dif_pos (by decide)]; rfl
      rw [this]
      exact h0
    · exact dec_len hz h
  rw [itxt_sign, List.length_append]
  split
  · simp; omega
  · simp; omega
theorem total_len {n : Num} (hn : n.Ok) (hl : n.text.length ≤ 1048576) : n.digits.length + (itxt n.total).length ≤ 1900000 := by
  have h1 := Num.lens hn
  have h2 := n.shift_le
  have h3 : n.digits.length ≤ n.int.length + n.frac.length := by
    have := stripR_len n.sig
    have := n.sig_len
    have := n.all_len
    unfold Num.digits
    omega
  have hw : (written n.esign n.exp).natAbs = val n.exp := by unfold written; split <;> omega
  have hv := val_lt hn.expd
  have hp := pow_big n.exp.length
  have ht : n.total.natAbs < 10 ^ (n.exp.length + 8) := by unfold Num.total; omega
  have h4 := itxt_len (by omega) ht
  by_cases he : n.exp = []
  · rw [he] at h4
    simp at h4
    omega
  · have h5 := h1.2.2 he
    rw [List.length_append] at h5
    omega
def zeroN : Num := ⟨false, [48], [], 101, [], []⟩
theorem zeroN_ok : zeroN.Ok := ⟨by simp [zeroN], AllD.one (by decide), Or.inl rfl, AllD.nil, AllD.nil, Or.inl rfl, Or.inl rfl⟩
theorem zeroN_dec : zeroN.dec = ⟨false, [], 0, []⟩ := by rfl
end Pl
/-- There and back. -/
theorem back {n : Pl.Num} (hn : n.Ok) (hl : n.text.length ≤ 1048576) : Fair n.dec ∧ (strD n.dec).length ≤ 2000000 ∧ ∃ n' : Pl.Num, n'.Ok ∧ strD n.dec = n'.text ∧ n'.dec = n.dec := by
  by_cases h0 : n.digits = []
  · have hd : n.dec = ⟨false, [], 0, []⟩ := by unfold Pl.Num.dec; rw [if_pos h0]
    rw [hd]
    exact ⟨⟨by decide, by decide, by simp, fun h => absurd rfl h⟩, by simp [strD], Pl.zeroN, Pl.zeroN_ok, rfl, Pl.zeroN_dec⟩
  · obtain ⟨h1, h2, h3⟩ := Pl.of_dec hn h0
    have hL := Pl.total_len hn hl
    rw [← h3] at hL
    have hr : -9223372036854775808 ≤ n.dec.exp ∧ n.dec.exp ≤ 9223372036854775807 := by
      unfold Pl.Num.dec
      rw [if_neg h0]
      cases hf : Pl.fits n.total with
      | true => exact (Pl.fits_iff _).1 hf
      | false => show _ ≤ (0 : Int) ∧ (0 : Int) ≤ _; decide
    refine ⟨fair_of h1 hr.1 hr.2 hL, text_len h1 hL, _, (num_ok h1).1, num_text h1, ?_⟩
    rw [(num_ok h1).2, h2]

set_option maxHeartbeats 400000 in
theorem bytes20_any (s : ByteArray) (w : World) (hs : s.size ≤ maxLen) :
    Calls Tryd.prog 20 #[.string s] w fun e w' => e = .returned (.bool (decide (s.size ≤ 1048576))) ∧ w' = w := by
  unfold maxLen at hs
  by_cases h : s.size ≤ 1048576
  · go_enter Tryd.func20, Tryd.ntmps20
    go_wp2
    go_ret
    exact ⟨ret_bool (by simp [h]), rfl⟩
  · go_enter Tryd.func20, Tryd.ntmps20
    go_wp2
    go_ret
    exact ⟨ret_bool (by simp; omega), rfl⟩

set_option maxRecDepth 100000 in
set_option maxHeartbeats 2000000 in
theorem law4 (s : ByteArray) (w : World) (hs : s.size ≤ maxLen) (hV : Vars w) (hP : Pow w) :
    Calls Tryd.prog 6 #[.string s] w fun e w' => e = .returned (.bool true) ∧ Below w.heap.size w w' := by
  by_cases hsz : s.size ≤ 1048576
  · have hszd : decide (s.size ≤ 1048576) = true := by simpa using hsz
    cases hval : Pl.validB s.data.toList with
    | false =>
      go_enter Tryd.func6, Tryd.ntmps6
      go_wp2_with (first
        | (go_at_call 20; refine (bytes20_any _ _ hs).mono ?_; rintro e w' ⟨rfl, rfl⟩; rw [hszd])
        | (go_at_call 17; refine (valid_any _ _ hs).mono ?_; rintro e w' ⟨rfl, rfl⟩; rw [hval]))
      go_ret
      exact ⟨rfl, Below.refl _ _⟩
    | true =>
      obtain ⟨n, hn, hl⟩ := Pl.valid_parts hval
      obtain ⟨hF, hSl, n', hn', hS, hD⟩ := back hn (by rw [← hl, ← size_list]; exact hsz)
      have HVAL : Hid (Pl.validB s.data.toList = true) := hval
      have HVAL' : Hid (Pl.validB (strD n.dec) = true) := by show _ = _; rw [hS]; exact Pl.Num.valid_text hn'
      have hcs := fun (W : World) (hW : Pow W) => stringZ_any n.dec W hF hW
      have hcp := fun (W : World) (hW : Vars W) => parseZ_any s n hn hl W (by omega) hW
      have hcp' := fun (W : World) (hW : Vars W) => parseZ_any ⟨(strD n.dec).toArray⟩ n' hn' hS W (by rw [size_mk]; exact hSl) hW
      have hcv' := fun (W : World) => valid_any ⟨(strD n.dec).toArray⟩ W (by rw [size_mk]; unfold maxLen; omega)
      have hcv := fun (W : World) => valid_any s W hs
      rw [hD] at hcp'
      rw [show Pl.validB (ByteArray.mk (strD n.dec).toArray).data.toList = true from HVAL'.out] at hcv'
      rw [hval] at hcv
      clear hval hl HVAL HVAL' hS hD hn hn' hF hSl
      obtain ⟨S, hS⟩ : ∃ S, strD n.dec = S := ⟨_, rfl⟩
      rw [hS] at hcs hcp' hcv'
      unfold tup at hcp hcp'
      obtain ⟨a, ha⟩ : ∃ a, n.dec.neg = a := ⟨_, rfl⟩
      obtain ⟨b, hb⟩ : ∃ b, n.dec.digits = b := ⟨_, rfl⟩
      obtain ⟨c, hc⟩ : ∃ c, n.dec.exp = c := ⟨_, rfl⟩
      obtain ⟨d, hd⟩ : ∃ d, n.dec.far = d := ⟨_, rfl⟩
      rw [ha, hb, hc, hd] at hcs hcp hcp'
      clear ha hb hc hd hS
      go_enter Tryd.func6, Tryd.ntmps6
      go_upto_region 9 with (first
        | (go_at_call 20; refine (bytes20_any _ _ hs).mono ?_; rintro e w' ⟨rfl, rfl⟩; rw [hszd])
        | (go_at_call 17; refine (hcv _).mono ?_; rintro e w' ⟨rfl, rfl⟩)
        | (go_at_call 18; refine (hcp _ hV).mono ?_; rintro e w1 ⟨rfl, hb1⟩; have hP1 := hP.below hb1)
        | (go_at_call 21; refine (hcs _ hP1).mono ?_; rintro e w2 ⟨rfl, hb2⟩; have hb12 := below_then hb1 hb2; have hV2 := hV.below hb12))
      clear hcv hcp hcs
      go_wp2_with (first
        | (go_at_call 17; refine (hcv' _).mono ?_; rintro e w' ⟨rfl, rfl⟩)
        | (go_at_call 18; refine (hcp' _ hV2).mono ?_; rintro e w3 ⟨rfl, hb3⟩; have hb13 := below_then hb12 hb3))
      go_ret
      exact ⟨ret_bool (by simp), hb13⟩
  · have hszd : decide (s.size ≤ 1048576) = false := by simp; omega
    go_enter Tryd.func6, Tryd.ntmps6
    go_wp2_with (go_at_call 20; refine (bytes20_any _ _ hs).mono ?_; rintro e w' ⟨rfl, rfl⟩; rw [hszd])
    go_ret
    exact ⟨rfl, Below.refl _ _⟩
end Go.Proofs.Qxb6602256aDoor
