/-
  FnDecimalStringIsCanonicalJSON: the walk of the law.
-/
import Derived.Test.Qxb6602256aDoorPlainF
import Derived.Test.Qxb6602256aDoorWalksR
import Derived.Lib.ItoaLen
namespace Go.Proofs.Qxb6602256aDoor
open Go.RowKit

theorem toEmpty {s : ByteArray} (h : s.data.toList = []) : s = ⟨#[]⟩ := by rw [← mk_list s, h]
theorem ofSize {s : ByteArray} (h : s.size = 0) : s = ⟨#[]⟩ := toEmpty (List.eq_nil_of_length_eq_zero (by rw [← size_list]; exact h))

theorem empty_no {s : ByteArray} (h : s ≠ ⟨#[]⟩) : s.toList.isEmpty = false := by
  rw [Bool.eq_false_iff, ne_eq, List.isEmpty_iff, ByteArray.toList_eq]
  exact fun e => h (toEmpty e)
set_option maxRecDepth 100000 in
set_option maxHeartbeats 4000000 in
theorem law5 (a : Bool) (s : ByteArray) (x : Int) (t : ByteArray) (w : World) (hs : s.size ≤ maxLen) (ht : t.size ≤ maxLen) (h0 : -9223372036854775808 ≤ x) (h1 : x ≤ 9223372036854775807) (hV : Vars w) (hP : Pow w) :
    Calls Tryd.prog 7 #[.bool a, .string s, .int .i64 x, .string t] w fun e w' => e = .returned (.bool true) ∧ Below w.heap.size w w' := by
  by_cases hsz : s.size + t.size ≤ 1048576
  case neg =>
    have hszd : decide (s.size + t.size ≤ 1048576) = false := by simp; omega
    go_enter Tryd.func7, Tryd.ntmps7
    go_wp2_with (go_at_call 22; refine (bytes22_any _ _ _ _ _ hs ht).mono ?_; rintro e w' ⟨rfl, rfl⟩; rw [hszd])
    go_ret
    exact ⟨rfl, Below.refl _ _⟩
  case pos =>
  have hszd : decide (s.size + t.size ≤ 1048576) = true := by simpa using hsz
  obtain ⟨d, hd⟩ : ∃ d : Pl.Dec, d = ⟨a, s.data.toList, x, t.data.toList⟩ := ⟨_, rfl⟩
  have hcs : ∀ W : World, Fair d → Pow W → Calls Tryd.prog 21 #[.bool a, .string s, .int .i64 x, .string t] W fun e w' => e = .returned (.string ⟨(strD d).toArray⟩) ∧ Below W.heap.size W w' := by
    intro W hF hW
    have := stringZ_any d W hF hW
    rw [hd] at this ⊢
    dsimp only at this
    rw [mk_list, mk_list] at this
    exact this
  by_cases hs0 : s.size = 0
  · obtain rfl := ofSize hs0
    have hF : Fair d := by
      rw [hd]
      exact ⟨h0, h1, by simp, fun h => absurd rfl h⟩
    have hS : strD d = [48] := by rw [strD, hd]; rfl
    have hc := fun W hW => hcs W hF hW
    rw [hS] at hc
    clear hcs hS hd hF
    go_enter Tryd.func7, Tryd.ntmps7
    go_wp2_with (first
      | (go_at_call 22; refine (bytes22_any _ _ _ _ _ hs ht).mono ?_; rintro e w' ⟨rfl, rfl⟩; rw [hszd])
      | (go_at_call 21; refine (hc _ hP).mono ?_; rintro e w' ⟨rfl, hb⟩))
    go_ret
    exact ⟨rfl, hb⟩
  have hsne : s ≠ ⟨#[]⟩ := fun e => hs0 (by rw [e]; rfl)
  have hse : s.toList.isEmpty = false := empty_no hsne
  have hDg := fun W => canonD_any s W hs
  have hBy := fun W => beyond_any t W ht
  have HCS := (show Hid _ from hcs)
  have HD := (show Hid _ from hd)
  clear hcs hd
  go_enter Tryd.func7, Tryd.ntmps7
  go_upto_region 7 with (go_at_call 22; refine (bytes22_any _ _ _ _ _ hs ht).mono ?_; rintro e w' ⟨rfl, e1⟩; have e2 := e1.symm; clear e1; subst e2; rw [hszd])
  go_cut [38] from 36 to 38 (fun v wx => ∃ b : Bool, v = .bool b ∧ Hid (b = false → Pl.Digs s.data.toList) ∧ w = wx)
  case first =>
    go_wp2_with (go_at_call 23; refine (hDg _).mono ?_; rintro e w' ⟨b, rfl, hb, e1⟩; have e2 := e1.symm; clear e1; subst e2; have HB : Hid (b = true → Pl.Digs s.data.toList) := hb; clear hb)
    go_meet
    case rel => exact ⟨!b, rfl, fun h => HB.out (by simpa using h), rfl⟩
  case rest =>
  obtain ⟨b, rfl, HB, rfl⟩ := hcut
  cases b with
  | true =>
    go_wp2_with fail
    go_ret
    exact ⟨rfl, Below.refl _ _⟩
  | false =>
  have hDigs := HB.out rfl
  have HDI := (show Hid _ from hDigs)
  clear HB hDigs hDg
  go_upto_region 9 with fail
  go_cut [45] from 39 to 45 (fun v wx => ∃ b : Bool, v = .bool b ∧ Hid (b = false → t.data.toList = [] ∨ ∃ E, t.data.toList = Pl.itxt E ∧ Pl.fits E = false) ∧ w = wx)
  case first =>
    by_cases ht0 : t = ⟨#[]⟩
    · subst ht0
      go_wp2_with fail
      go_meet
      case rel => exact ⟨false, rfl, fun _ => Or.inl (by trivial), rfl⟩
    · have hte : t.toList.isEmpty = false := empty_no ht0
      go_wp2_with (go_at_call 24; refine (hBy _).mono ?_; rintro e w' ⟨b, rfl, hb, e1⟩; have e2 := e1.symm; clear e1; subst e2; have HB : Hid (b = true → ∃ E, t.data.toList = Pl.itxt E ∧ Pl.fits E = false) := hb; clear hb)
      go_meet
      case rel => exact ⟨!b, by simp, fun h => Or.inr (HB.out (by simpa using h)), rfl⟩
  case rest =>
  obtain ⟨b, rfl, HB, rfl⟩ := hcut
  cases b with
  | true =>
    go_wp2_with fail
    go_ret
    exact ⟨rfl, Below.refl _ _⟩
  | false =>
  have hFar := HB.out rfl
  clear HB hBy
  obtain ⟨E, hOf, htl⟩ : ∃ E, Pl.Of d E ∧ s.size + (Pl.itxt E).length ≤ 1048576 + 30 := by
    rw [HD.out]
    rcases hFar with hf | ⟨E, hE, hfit⟩
    · refine ⟨x, ⟨HDI.out, Or.inl ⟨hf, rfl, (Pl.fits_iff x).2 ⟨h0, h1⟩⟩⟩, ?_⟩
      have := Lib.itoa_length_le x h0 h1
      rw [Pl.itxt_itoa]
      omega
    · refine ⟨E, ⟨HDI.out, Or.inr ⟨hE, hfit⟩⟩, ?_⟩
      rw [← hE, ← size_list]
      omega
  have hlen : d.digits.length + (Pl.itxt E).length ≤ 1900000 := by
    have e : d.digits.length = s.size := by rw [HD.out, size_list]
    omega
  have hF : Fair d := fair_of hOf (by rw [HD.out]; exact h0) (by rw [HD.out]; exact h1) hlen
  have hSl := text_len hOf hlen
  have hnum := num_ok hOf
  have hnt := num_text hOf
  have hcs := fun W hW => HCS.out W hF hW
  have hcv := fun (W : World) => valid_any ⟨(strD d).toArray⟩ W (by rw [size_mk]; unfold maxLen; omega)
  have hcp := fun (W : World) (hW : Vars W) => parseZ_any ⟨(strD d).toArray⟩ (numOf d E) hnum.1 hnt W (by rw [size_mk]; exact hSl) hW
  have hcf := fun (W : World) => form_text hOf W hSl
  have hvt : Pl.validB (strD d) = true := by rw [hnt]; exact Pl.Num.valid_text hnum.1
  rw [show Pl.validB (ByteArray.mk (strD d).toArray).data.toList = true from hvt] at hcv
  have hnorm : tup (numOf d E).dec = .tuple #[.bool a, .string s, .int .i64 (if t.data.toList = [] then x else 0), .string t] := by
    rw [hnum.2, HD.out]
    unfold tup Pl.Dec.norm
    simp only [mk_list]
  rw [hnorm] at hcp
  have hsci : sciB d.far d.exp = sciB t.data.toList x := by rw [HD.out]
  rw [hsci] at hcf
  obtain ⟨S, hS⟩ : ∃ S, strD d = S := ⟨_, rfl⟩
  rw [hS] at hcs hcv hcp hcf
  clear hnorm hsci hvt hnt hnum hSl hF hlen htl hOf hS HCS HD hFar
  by_cases ht0 : t = ⟨#[]⟩
  · subst ht0
    rw [if_pos rfl] at hcp
    obtain ⟨sc, hsc⟩ : ∃ sc, sciB [] x = sc := ⟨_, rfl⟩
    have hcf2 : ∀ W : World, Calls Tryd.prog 25 #[.string ⟨S.toArray⟩, .bool sc] W fun e w' => e = .returned (.bool true) ∧ w' = W := by
      rw [← hsc]
      exact hcf
    have HSC : Hid (sciB [] x = sc) := hsc
    clear hcf hsc
    go_upto_region 20 with (first
      | (go_at_call 21; refine (hcs _ hP).mono ?_; rintro e w1 ⟨rfl, hb1⟩; have hV1 := hV.below hb1)
      | (go_at_call 17; refine (hcv _).mono ?_; rintro e w' ⟨rfl, e1⟩; have e2 := e1.symm; clear e1; subst e2)
      | (go_at_call 18; refine (hcp _ hV1).mono ?_; rintro e w2 ⟨rfl, hb2⟩))
    go_cut [15] from 82 to 91 (fun v wx => v = .bool sc ∧ w2 = wx)
    case first =>
      by_cases hl : x < -5
      · have e : sc = true := by rw [← HSC.out]; simp [sciB, hl]
        subst e
        go_wp2_with fail
        go_meet
        case rel => exact ⟨rfl, rfl⟩
      · by_cases hg : 38 < x
        · have e : sc = true := by rw [← HSC.out]; simp [sciB, hg]
          subst e
          go_wp2_with fail
          go_meet
          case rel => exact ⟨rfl, rfl⟩
        · have e : sc = false := by rw [← HSC.out]; simp [sciB, hl, hg]
          subst e
          go_wp2_with fail
          go_meet
          case rel => exact ⟨rfl, rfl⟩
    case rest =>
    obtain ⟨rfl, rfl⟩ := hcut
    go_wp2_with (go_at_call 25; refine (hcf2 _).mono ?_; rintro e w' ⟨rfl, e1⟩; have e2 := e1.symm; clear e1; subst e2)
    go_ret
    exact ⟨rfl, below_then hb1 hb2⟩
  · have htn : t.data.toList ≠ [] := fun e => ht0 (toEmpty e)
    rw [if_neg htn] at hcp
    have hsc : sciB t.data.toList x = true := by simp [sciB, htn]
    rw [hsc] at hcf
    have hte : t.toList.isEmpty = false := empty_no ht0
    clear htn hsc
    go_wp2_with (first
      | (go_at_call 21; refine (hcs _ hP).mono ?_; rintro e w1 ⟨rfl, hb1⟩; have hV1 := hV.below hb1)
      | (go_at_call 17; refine (hcv _).mono ?_; rintro e w' ⟨rfl, e1⟩; have e2 := e1.symm; clear e1; subst e2)
      | (go_at_call 18; refine (hcp _ hV1).mono ?_; rintro e w2 ⟨rfl, hb2⟩)
      | (go_at_call 25; refine (hcf _).mono ?_; rintro e w' ⟨rfl, e1⟩; have e2 := e1.symm; clear e1; subst e2))
    go_ret
    exact ⟨rfl, below_then hb1 hb2⟩
end Go.Proofs.Qxb6602256aDoor
