/-
  FnCutFieldReadsBackAWrittenField: the walk of the law.
-/
import Derived.Test.Qxb6602280aDoorWalksK
namespace Go.Proofs.Qxb6602280aDoor
open Go.RowKit

set_option maxRecDepth 100000 in
set_option maxHeartbeats 4000000 in
theorem law (k v r : ByteArray) (s : UInt8) (p : Bool) (w : World) (hk : k.size ≤ maxLen) (hv : v.size ≤ maxLen) (hr : r.size ≤ maxLen) (hT : Tabs w) :
    Calls Tryd.prog 6 #[.string k, .string v, .string r, .int .u8 (s.toNat : Int), .bool p] w fun e w' => e = .returned (.bool true) ∧ Below w.heap.size w w' := by
  have hk' : k.size ≤ 9223372036854775807 := hk
  have hv' : v.size ≤ 9223372036854775807 := hv
  have hr' : r.size ≤ 9223372036854775807 := hr
  have hB0 := fun W => bytes15_any k v r (s.toNat : Int) p W hk hv hr
  have hE1 := fun W => edges_any k W hk
  have hE2 := fun W => edges_any v W hv
  go_enter Tryd.func6, Tryd.ntmps6
  go_upto_region 1 with fail
  go_cut [23] from 17 to 23 (fun t wx => ∃ b : Bool, t = .bool b ∧ Hid (b = false → k.size + v.size + r.size ≤ 1048576) ∧ w = wx)
  case first =>
    go_wp2_with (go_at_call 15; refine (hB0 _).mono ?_; rintro e w' ⟨b, rfl, hb, e1⟩; have e2 := e1.symm; clear e1; subst e2; have HB : Hid (b = true → k.size + v.size + r.size ≤ 1048576) := hb; clear hb)
    go_meet
    case rel => exact ⟨!b, rfl, fun h => HB.out (by simpa using h), rfl⟩
  case rest =>
  obtain ⟨b, rfl, HB, rfl⟩ := hcut
  cases b with
  | true =>
    go_wp2_with fail
    go_ret
    exact ⟨rfl, Below.refl _ _⟩
  | false =>
  clear HB hB0
  by_cases hk1 : k.size ≤ 262144
  case neg =>
    go_wp2_with fail
    go_ret
    exact ⟨rfl, Below.refl _ _⟩
  case pos =>
  by_cases hv1 : v.size ≤ 262144
  case neg =>
    go_wp2_with fail
    go_ret
    exact ⟨rfl, Below.refl _ _⟩
  case pos =>
  by_cases hr1 : r.size ≤ 262144
  case neg =>
    go_wp2_with fail
    go_ret
    exact ⟨rfl, Below.refl _ _⟩
  case pos =>
  cases hbs : blank s with
  | true =>
    go_wp2_with (go_at_call 16; refine (blank_any _ _).mono ?_; rintro e w' ⟨rfl, rfl⟩; rw [hbs])
    go_ret
    exact ⟨rfl, Below.refl _ _⟩
  | false =>
  go_upto_region 11 with (go_at_call 16; refine (blank_any _ _).mono ?_; rintro e w' ⟨rfl, e1⟩; have e2 := e1.symm; clear e1; subst e2; rw [hbs])
  go_cut [42] from 35 to 42 (fun t wx => ∃ b : Bool, t = .bool b ∧ Hid (b = false → Edges k.data.toList ∧ Edges v.data.toList) ∧ w = wx)
  case first =>
    go_wp2_with first
      | (go_at_call 17; refine (hE1 _).mono ?_; rintro e w' ⟨_ | _, rfl, hb, e1⟩ <;> (have e2 := e1.symm; clear e1; subst e2; have HB : Hid (_ → Edges k.data.toList) := hb; clear hb hE1))
      | (go_at_call 17; refine (hE2 _).mono ?_; rintro e w' ⟨b, rfl, hb, e1⟩; have e2 := e1.symm; clear e1; subst e2; have HC : Hid (b = true → Edges v.data.toList) := hb; clear hb hE2)
    case _ => 
      go_meet
      case rel => exact ⟨true, rfl, fun h => (by cases h), rfl⟩
    case _ => 
      go_meet
      case rel => exact ⟨!b, rfl, fun h => ⟨HB.out trivial, HC.out (by simpa using h)⟩, rfl⟩
  case rest =>
  obtain ⟨b, rfl, HB, rfl⟩ := hcut
  cases b with
  | true =>
    go_wp2_with fail
    go_ret
    exact ⟨rfl, Below.refl _ _⟩
  | false =>
  have HK : Hid (Edges k.data.toList) := (HB.out rfl).1
  have HV : Hid (Edges v.data.toList) := (HB.out rfl).2
  clear HB hE1 hE2
  go_upto_block 0 with fail
  go_cut [11] from 43 to 59 (fun _ wx => Hid (∀ j (h : j < k.size), k[j] ≠ 10 ∧ k[j] ≠ s) ∧ w = wx)
  case first =>
    go_wp2_with fail
    go_loop [11] (fun i => ∃ n : Nat, n ≤ k.size ∧ i = .int .i64 n ∧ Hid (∀ j (h : j < k.size), j < n → k[j] ≠ 10 ∧ k[j] ≠ s)) (fun i => k.size - (intOf i).toNat)
    case atStart => exact ⟨0, Nat.zero_le _, rfl, fun j _ h => absurd h (Nat.not_lt_zero j)⟩
    case round =>
      obtain ⟨n, hn, rfl, HN⟩ := hrel
      by_cases hlt : n < k.size
      · by_cases h1 : k[n] = 10
        · have b1 : ((k[n].toNat : Int) == 10) = true := beqv_yes (n := 10) h1
          clear h1
          go_wp2
          go_ret
          exact ⟨rfl, Below.refl _ _⟩
        · have b1 : ((k[n].toNat : Int) == 10) = false := beqv_no (n := 10) h1
          have H1 : Hid (k[n] ≠ 10) := h1
          clear h1
          by_cases h2 : k[n] = s
          · have b2 := beqv_yes h2
            clear h2
            go_wp2
            go_ret
            exact ⟨rfl, Below.refl _ _⟩
          · have b2 := beqv_no h2
            have H2 : Hid (k[n] ≠ s) := h2
            clear h2
            go_wp2
            refine ⟨⟨n + 1, by omega, by go_num, fun j hj hjn => ?_⟩, by simp [intOf]; omega⟩
            by_cases hje : j = n
            · subst hje
              exact ⟨H1.out, H2.out⟩
            · exact HN.out j hj (by omega)
      · go_wp2
        go_meet
        case rel => exact ⟨fun j hj => HN.out j hj (by omega), rfl⟩
  case rest =>
  obtain ⟨HK2, rfl⟩ := hcut
  go_upto_block 2 with fail
  go_cut [12] from 60 to 69 (fun _ wx => Hid (∀ j (h : j < v.size), v[j] ≠ 10) ∧ w = wx)
  case first =>
    go_wp2_with fail
    go_loop [12] (fun i => ∃ n : Nat, n ≤ v.size ∧ i = .int .i64 n ∧ Hid (∀ j (h : j < v.size), j < n → v[j] ≠ 10)) (fun i => v.size - (intOf i).toNat)
    case atStart => exact ⟨0, Nat.zero_le _, rfl, fun j _ h => absurd h (Nat.not_lt_zero j)⟩
    case round =>
      obtain ⟨n, hn, rfl, HN⟩ := hrel
      by_cases hlt : n < v.size
      · by_cases h1 : v[n] = 10
        · have b1 : ((v[n].toNat : Int) == 10) = true := beqv_yes (n := 10) h1
          clear h1
          go_wp2
          go_ret
          exact ⟨rfl, Below.refl _ _⟩
        · have b1 : ((v[n].toNat : Int) == 10) = false := beqv_no (n := 10) h1
          have H1 : Hid (v[n] ≠ 10) := h1
          clear h1
          go_wp2
          refine ⟨⟨n + 1, by omega, by go_num, fun j hj hjn => ?_⟩, by simp [intOf]; omega⟩
          by_cases hje : j = n
          · subst hje
            exact H1.out
          · exact HN.out j hj (by omega)
      · go_wp2
        go_meet
        case rel => exact ⟨fun j hj => HN.out j hj (by omega), rfl⟩
  case rest =>
  obtain ⟨HV2, rfl⟩ := hcut
  clear hk' hv' hr' hk hv hr
  obtain ⟨i0, hi, hz0, hz1, hz2⟩ := info5
  go_upto_region 24 with (at_make; refine wpList_make_own _ rfl _ _ 23 rfl w.heap.size 5 i0 (.int .u8 0) 1 Tryd.underlying23 hi hz0 hz1 _ _ _ (k.size + v.size + r.size + 10) rfl rfl (by omega) (by rw [hz2]; omega) (by unfold maxLen; omega) (Nat.le_refl _) ?_; intro w1 hown1 hgrow1)
  have B1 := (Below.refl w.heap.size w).grown hgrow1 (Nat.le_refl _) (by simp)
  obtain ⟨v1, O1, e1⟩ : ∃ v1, Own w.heap.size v1 [] w1 ∧ Value.slice (some ⟨w.heap.size, 0, none⟩) 0 (k.size + v.size + r.size + 10) = v1 := ⟨_, hown1, rfl⟩
  rw [e1]
  clear e1 hown1 hgrow1
  have l1 : ([] : List UInt8).length ≤ 0 := by simp
  have lp := pad_len p
  have lk : k.data.toList.length ≤ 262144 := by rw [← size_list]; exact hk1
  have lv : v.data.toList.length ≤ 262144 := by rw [← size_list]; exact hv1
  have lr : r.data.toList.length ≤ 262144 := by rw [← size_list]; exact hr1
  go_upto_region 25 with (go_at_call 18; refine (pad_any w.heap.size _ _ p _ O1 B1.size (by omega)).mono ?_; rintro e w2 ⟨v2, rfl, O2, G2⟩)
  have B2 := B1.trans G2
  have l2 : ([] ++ pad p : List UInt8).length ≤ 2 := by rw [List.length_append]; omega
  clear O1 l1 B1 G2
  go_upto_region 26 with (at_builtin; refine Lib.wpList_append_own_string _ rfl _ _ 23 9 rfl w.heap.size 5 i0 Tryd.underlying23 Tryd.underlying9 hi hz0 hz1 hz2 _ _ _ rfl O2 k rfl (by unfold maxLen; omega) (by omega) B2.size ?_; intro v3 w3 o3 g3 _)
  have O3 := own_str o3
  have B3 := B2.grown g3 B2.size (own_block O2)
  have l3 : ([] ++ pad p ++ k.data.toList : List UInt8).length ≤ 262146 := by rw [List.length_append]; omega
  clear O2 l2 B2 o3 g3
  go_upto_region 27 with (go_at_call 18; refine (pad_any w.heap.size _ _ p _ O3 B3.size (by omega)).mono ?_; rintro e w4 ⟨v4, rfl, O4, G4⟩)
  have B4 := B3.trans G4
  have l4 : ([] ++ pad p ++ k.data.toList ++ pad p : List UInt8).length ≤ 262148 := by rw [List.length_append]; omega
  clear O3 l3 B3 G4
  go_upto_region 28 with (at_builtin; refine wpList_append_own _ rfl _ _ 23 rfl w.heap.size 5 i0 (.int .u8 0) 1 1 Tryd.underlying23 hi hz0 hz1 hz2 rfl (by decide) _ _ _ rfl (O4.alloc _) ⟨w4.heap.size, 0, none⟩ 1 1 [.int .u8 (s.toNat : Int)] rfl rfl (by exact news_one _ _ _) (by exact one_u8 _) (by unfold maxLen; omega) (by omega) (by have := B4.size; simp; omega) ?_; intro v5 w5 o5 g5 _)
  have O5 := own_one (c := s) o5
  have B5 := (B4.alloc B4.size _).grown g5 (by have := B4.size; simp; omega) (own_block O4)
  have l5 : ([] ++ pad p ++ k.data.toList ++ pad p ++ [s] : List UInt8).length ≤ 262149 := by rw [List.length_append, List.length_singleton]; omega
  clear O4 l4 B4 o5 g5
  go_upto_region 29 with (go_at_call 18; refine (pad_any w.heap.size _ _ p _ O5 B5.size (by omega)).mono ?_; rintro e w6 ⟨v6, rfl, O6, G6⟩)
  have B6 := B5.trans G6
  have l6 : ([] ++ pad p ++ k.data.toList ++ pad p ++ [s] ++ pad p : List UInt8).length ≤ 262151 := by rw [List.length_append]; omega
  clear O5 l5 B5 G6
  go_upto_region 30 with (at_builtin; refine Lib.wpList_append_own_string _ rfl _ _ 23 9 rfl w.heap.size 5 i0 Tryd.underlying23 Tryd.underlying9 hi hz0 hz1 hz2 _ _ _ rfl O6 v rfl (by unfold maxLen; omega) (by omega) B6.size ?_; intro v7 w7 o7 g7 _)
  have O7 := own_str o7
  have B7 := B6.grown g7 B6.size (own_block O6)
  have l7 : ([] ++ pad p ++ k.data.toList ++ pad p ++ [s] ++ pad p ++ v.data.toList : List UInt8).length ≤ 524295 := by rw [List.length_append]; omega
  clear O6 l6 B6 o7 g7
  go_upto_region 31 with (go_at_call 18; refine (pad_any w.heap.size _ _ p _ O7 B7.size (by omega)).mono ?_; rintro e w8 ⟨v8, rfl, O8, G8⟩)
  have B8 := B7.trans G8
  have l8 : ([] ++ pad p ++ k.data.toList ++ pad p ++ [s] ++ pad p ++ v.data.toList ++ pad p : List UInt8).length ≤ 524297 := by rw [List.length_append]; omega
  clear O7 l7 B7 G8
  go_upto_region 32 with (at_builtin; refine wpList_append_own _ rfl _ _ 23 rfl w.heap.size 5 i0 (.int .u8 0) 1 1 Tryd.underlying23 hi hz0 hz1 hz2 rfl (by decide) _ _ _ rfl (O8.alloc _) ⟨w8.heap.size, 0, none⟩ 1 1 [.int .u8 10] rfl rfl (by exact news_one _ _ _) (by exact one_u8 _) (by unfold maxLen; omega) (by omega) (by have := B8.size; simp; omega) ?_; intro v9 w9 o9 g9 _)
  have O9 := own_one (c := 10) o9
  have B9 := (B8.alloc B8.size _).grown g9 (by have := B8.size; simp; omega) (own_block O8)
  have l9 : ([] ++ pad p ++ k.data.toList ++ pad p ++ [s] ++ pad p ++ v.data.toList ++ pad p ++ [10] : List UInt8).length ≤ 524298 := by rw [List.length_append, List.length_singleton]; omega
  clear O8 l8 B8 o9 g9
  go_upto_region 33 with (at_builtin; refine Lib.wpList_append_own_string _ rfl _ _ 23 9 rfl w.heap.size 5 i0 Tryd.underlying23 Tryd.underlying9 hi hz0 hz1 hz2 _ _ _ rfl O9 r rfl (by unfold maxLen; omega) (by omega) B9.size ?_; intro v10 w10 o10 g10 _)
  have O10 := own_str o10
  have B10 := B9.grown g10 B9.size (own_block O9)
  clear O9 l9 B9 o10 g10
  have eL : [] ++ pad p ++ k.data.toList ++ pad p ++ [s] ++ pad p ++ v.data.toList ++ pad p ++ [10] ++ r.data.toList = lineOf (pad p) k.data.toList v.data.toList s ++ 10 :: r.data.toList := by simp [lineOf]
  rw [eL] at O10
  have hC := cut_line w.heap.size v10 p _ _ _ s w10 O10 HK.out HV.out hbs (bytes_all fun j hj => (HK2.out j hj).1) (bytes_all HV2.out) (bytes_all fun j hj => (HK2.out j hj).2) lk lv lr (hT.below B10)
  clear O10 eL HK HV HK2 HV2 lk lv lr lp hi hz0 hz1 hz2 hbs
  go_upto_region 34 with (go_at_call 12; refine hC.mono ?_; rintro e w11 ⟨kv, vv, rv, rfl, S1, S2, S3, S4, G11⟩)
  have B11 := below_then B10 G11
  clear G11 B10 hC
  have S3' := S3
  rcases S3 with ⟨e3, _⟩ | ⟨b3, o3, c3, rfl, _, _⟩
  · exact absurd e3 S4
  have hY1 := eq_yes kv k w11 (by omega) S1
  clear S1 S4
  go_wp2_with first
    | (go_at_call 19; refine hY1.mono ?_; rintro e w12 ⟨rfl, G12⟩; clear hY1; have hY2 := eq_yes vv v w12 (by omega) (S2.low G12); have S5 := S3'.low G12; have B12 := below_then B11 G12; clear S2 S3' G12 B11)
    | (go_at_call 19; refine hY2.mono ?_; rintro e w13 ⟨rfl, G13⟩; clear hY2; have hY3 := eq_yes _ r w13 (by omega) (S5.low G13); have B13 := below_then B12 G13; clear S5 G13 B12)
    | (go_at_call 19; refine hY3.mono ?_; rintro e w14 ⟨rfl, G14⟩; clear hY3)
  go_ret
  exact ⟨rfl, below_then B13 G14⟩
end Go.Proofs.Qxb6602280aDoor
