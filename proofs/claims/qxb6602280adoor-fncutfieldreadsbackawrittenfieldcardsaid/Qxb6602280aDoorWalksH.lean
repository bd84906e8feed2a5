/-
  cutField on a written line.
-/
import Derived.Test.Qxb6602280aDoorWalksG
import Derived.Test.Qxb6602280aDoorPlainA
namespace Go.Proofs.Qxb6602280aDoor
open Go.RowKit

theorem At.low {w w' : World} {b o : Nat} {l : List UInt8} (h : At w b o l) (hb : Below w.heap.size w w') : At w' b o l := fun i hi => cell_below (h i hi) hb
theorem Sl.low {w w' : World} {v : Value} {l : List UInt8} (h : Sl w v l) (hb : Below w.heap.size w w') : Sl w' v l := by
  rcases h with h | ⟨b, o, c, h1, h2, h3⟩
  · exact Or.inl h
  · exact Or.inr ⟨b, o, c, h1, h2, h3.low hb⟩
theorem from_sl {w : World} {b o c : Nat} {X Z : List UInt8} {y : UInt8} (hA : At w b o (X ++ y :: Z)) (hnc : X.length + (Z.length + 1) ≤ c) :
    ∃ o' c', Lib.fromV (some ⟨b, o, none⟩) (X.length + (Z.length + 1)) c (X.length + 1) = .slice (some ⟨b, o', none⟩) Z.length c' ∧ Z.length ≤ c' ∧ At w b o' Z := by
  have hz : X.length + (Z.length + 1) - (X.length + 1) = Z.length := by omega
  have hAZ : At w b (o + (X.length + 1)) Z := by
    have := hA.drop (X.length + 1)
    rw [show X ++ y :: Z = (X ++ [y]) ++ Z by simp, show X.length + 1 = (X ++ [y]).length by simp, List.drop_left] at this
    simpa using this
  unfold Lib.fromV
  rw [hz]
  by_cases h : c = X.length + 1
  · refine ⟨o, c - (X.length + 1), by rw [if_pos h], by omega, ?_⟩
    have hZ : Z = [] := List.eq_nil_of_length_eq_zero (by omega)
    intro i hi
    rw [hZ] at hi
    simp at hi
  · refine ⟨o + (X.length + 1), c - (X.length + 1), ?_, by omega, hAZ⟩
    rw [if_neg h]
    simp [Addr.add]
theorem head_pr {K B : List UInt8} (hK : Edges K) (h0 : K ≠ []) : Head (K ++ B) := by
  obtain ⟨x, T, hx, hp⟩ := edges_head hK h0
  exact ⟨x, T ++ B, by rw [hx]; simp, Or.inl (pr_solid hp)⟩
theorem tail_pr {K : List UInt8} (hK : Edges K) (h0 : K ≠ []) : Tail K := by
  obtain ⟨T, x, hx, hp⟩ := edges_tail hK h0
  exact ⟨T, x, hx, Or.inl (pr_solid hp)⟩
/-- A trimmed slice's answer. -/
def Ans (w : World) (l : List UInt8) (e : Ending) (w' : World) : Prop := ∃ v, e = .returned v ∧ Sl w' v l ∧ Below w.heap.size w w'
theorem trim_key (b o c : Nat) (A K : List UInt8) (w : World) (hAt : At w b o (before A K)) (hA : ∀ x ∈ A, blank x = true) (hK : Edges K) (hnc : (before A K).length ≤ c) (hc : (before A K).length ≤ 9000000000) (hT : Tabs w) :
    Calls Tryd.prog 28 #[.slice (some ⟨b, o, none⟩) (before A K).length c] w fun e w' => Ans w K e w' := by
  by_cases h0 : K = []
  · have hb : before A K = [] := by simp [before, h0]
    rw [hb] at hAt hnc hc ⊢
    refine (trim_blank b o c [] w hAt (fun _ h => by cases h) (by simp) hT).mono ?_
    rintro e w' ⟨rfl, rfl⟩
    exact ⟨_, rfl, Or.inl ⟨rfl, h0⟩, Below.refl _ _⟩
  · have hb : before A K = K ++ A := by simp [before, h0]
    rw [hb, List.length_append] at hnc hc
    rw [hb] at hAt ⊢
    have := trim_any b o c [] K A w (by simpa using hAt) (fun _ h => by cases h) hA (head_pr hK h0) (tail_pr hK h0) (by simpa using hnc) (by simpa using hc) hT
    simp only [List.length_nil, Nat.zero_add, Nat.add_zero, Nat.sub_zero] at this
    rw [List.length_append]
    refine this.mono ?_
    rintro e w' ⟨rfl, hb'⟩
    exact ⟨_, rfl, Or.inr ⟨b, o, c, rfl, by omega, (by have := hAt.take K.length; rw [List.take_left] at this; exact this.low hb')⟩, hb'⟩
theorem trim_val (b o c : Nat) (A V : List UInt8) (w : World) (hAt : At w b o (after A V)) (hA : ∀ x ∈ A, blank x = true) (hV : Edges V) (hnc : (after A V).length ≤ c) (hc : (after A V).length ≤ 9000000000) (hT : Tabs w) :
    Calls Tryd.prog 28 #[.slice (some ⟨b, o, none⟩) (after A V).length c] w fun e w' => Ans w V e w' := by
  by_cases h0 : V = []
  · have hb : after A V = [] := by simp [after, h0]
    rw [hb] at hAt hnc hc ⊢
    refine (trim_blank b o c [] w hAt (fun _ h => by cases h) (by simp) hT).mono ?_
    rintro e w' ⟨rfl, rfl⟩
    exact ⟨_, rfl, Or.inl ⟨rfl, h0⟩, Below.refl _ _⟩
  · have hb : after A V = A ++ V := by simp [after, h0]
    rw [hb, List.length_append] at hnc hc
    rw [hb] at hAt ⊢
    have := trim_any b o c A V [] w (by simpa using hAt) hA (fun _ h => by cases h) (by simpa using head_pr (B := []) hV h0) (tail_pr hV h0) (by simpa using hnc) (by simpa using hc) hT
    simp only [List.length_nil, Nat.add_zero] at this
    rw [List.length_append]
    refine this.mono ?_
    rintro e w' ⟨rfl, hb'⟩
    exact ⟨_, rfl, Or.inr ⟨b, o + A.length, c - A.length, rfl, by omega, (by have := hAt.drop A.length; rw [List.drop_left] at this; exact this.low hb')⟩, hb'⟩

set_option maxRecDepth 100000 in
set_option maxHeartbeats 2000000 in
theorem cutField_any (b o c : Nat) (A K V R L : List UInt8) (s : UInt8) (w : World) (hL : lineOf A K V s = L) (hAt : At w b o (L ++ 10 :: R)) (hA : ∀ x ∈ A, blank x = true) (hK : Edges K) (hV : Edges V) (hs : blank s = false)
    (h10 : ∀ x ∈ L, x ≠ 10) (hKs : ∀ x ∈ before A K, x ≠ s) (hnc : L.length + (R.length + 1) ≤ c) (hc : L.length + (R.length + 1) < 4000000000) (hT : Tabs w) :
    Calls Tryd.prog 21 #[.slice (some ⟨b, o, none⟩) (L.length + (R.length + 1)) c, .int .u8 (s.toNat : Int)] w fun e w' => ∃ kv vv rv, e = .returned (.tuple #[kv, vv, rv]) ∧ Sl w' kv K ∧ Sl w' vv V ∧ Sl w' rv R ∧ rv ≠ .slice none 0 0 ∧ Below w.heap.size w w' := by
  have hb0 : ∀ ob : Obj, Below w.heap.size w (w.alloc ob) := fun ob => (Below.refl _ _).alloc (Nat.le_refl _) _
  have hC1 : ∀ (ob : Obj) (b2 o2 c2 : Nat), (w.alloc ob).cell? ⟨b2, o2, none⟩ = some (.int .u8 10) → Calls Tryd.prog 27 #[.slice (some ⟨b, o, none⟩) (L.length + (R.length + 1)) c, .slice (some ⟨b2, o2, none⟩) 1 c2] (w.alloc ob) fun e w' => e = .returned (.tuple #[.slice (some ⟨b, o, none⟩) L.length c, Lib.fromV (some ⟨b, o, none⟩) (L.length + (R.length + 1)) c (L.length + 1), .bool true]) ∧ Below (w.alloc ob).heap.size (w.alloc ob) w' :=
    fun ob b2 o2 c2 h2 => cut_one b o c b2 o2 c2 L R 10 (w.alloc ob) (hAt.low (hb0 ob)) h2 h10 hnc hc (hT.below (hb0 ob))
  obtain ⟨P, hP⟩ : ∃ P, lead A K = P := ⟨_, rfl⟩
  obtain ⟨Q, hQ⟩ : ∃ Q, lead A V = Q := ⟨_, rfl⟩
  obtain ⟨X, hX⟩ : ∃ X, before A K = X := ⟨_, rfl⟩
  obtain ⟨Z, hZ⟩ : ∃ Z, after A V = Z := ⟨_, rfl⟩
  have hparts : L = P ++ ((X ++ s :: Z) ++ Q) := by rw [← hL, line_parts, hP, hQ, hX, hZ]
  have hMl : (X ++ s :: Z).length = X.length + (Z.length + 1) := by simp
  have hLl : L.length = P.length + ((X ++ s :: Z).length + Q.length) := by rw [hparts, List.length_append, List.length_append]
  have hHd : Head ((X ++ s :: Z) ++ Q) := by rw [← hX, ← hZ, ← hQ]; exact line_head hA hK hV hs
  have hTl : Tail (X ++ s :: Z) := by rw [← hX, ← hZ]; exact line_tail hA hK hV hs
  have hAtL : At w b o (P ++ ((X ++ s :: Z) ++ Q)) := by
    have := hAt.take L.length
    rw [List.take_left] at this
    rw [← hparts]; exact this
  have hAtM : At w b (o + P.length) (X ++ s :: Z) := by
    have h1 := hAtL.drop P.length
    rw [List.drop_left] at h1
    have h2 := h1.take (X ++ s :: Z).length
    rw [List.take_left] at h2
    exact h2
  have hTr : ∀ W : World, Below w.heap.size w W → Calls Tryd.prog 28 #[.slice (some ⟨b, o, none⟩) L.length c] W fun e w' => e = .returned (.slice (some ⟨b, o + P.length, none⟩) (X.length + (Z.length + 1)) (c - P.length)) ∧ Below W.heap.size W w' := by
    intro W hb
    have := trim_any b o c P (X ++ s :: Z) Q W (hAtL.low hb) (by rw [← hP]; exact lead_blank hA) (by rw [← hQ]; exact lead_blank hA) hHd hTl (by omega) (by omega) (hT.below hb)
    rw [← hLl, hMl] at this
    exact this
  have hC2 : ∀ (W : World) (b2 o2 c2 : Nat), Below w.heap.size w W → W.cell? ⟨b2, o2, none⟩ = some (.int .u8 (s.toNat : Int)) → Calls Tryd.prog 27 #[.slice (some ⟨b, o + P.length, none⟩) (X.length + (Z.length + 1)) (c - P.length), .slice (some ⟨b2, o2, none⟩) 1 c2] W fun e w' => e = .returned (.tuple #[.slice (some ⟨b, o + P.length, none⟩) X.length (c - P.length), Lib.fromV (some ⟨b, o + P.length, none⟩) (X.length + (Z.length + 1)) (c - P.length) (X.length + 1), .bool true]) ∧ Below W.heap.size W w' :=
    fun W b2 o2 c2 hb h2 => cut_one b (o + P.length) (c - P.length) b2 o2 c2 X Z s W (hAtM.low hb) h2 (by rw [← hX]; exact hKs) (by omega) (by omega) (hT.below hb)
  obtain ⟨oz, cz, hzv, hzc, hzA⟩ := from_sl (c := c - P.length) hAtM (by omega)
  obtain ⟨oR, cR, hrv, hrc, hrA⟩ := from_sl hAt hnc
  simp only [hzv] at hC2
  simp only [hrv] at hC1
  have hKey : ∀ W : World, Below w.heap.size w W → Calls Tryd.prog 28 #[.slice (some ⟨b, o + P.length, none⟩) X.length (c - P.length)] W fun e w' => Ans W K e w' := by
    intro W hb
    have hAX : At w b (o + P.length) X := by
      have := hAtM.take X.length
      rw [List.take_left] at this
      exact this
    have := trim_key b (o + P.length) (c - P.length) A K W (by rw [hX]; exact hAX.low hb) hA hK (by rw [hX]; omega) (by rw [hX]; omega) (hT.below hb)
    rw [hX] at this
    exact this
  have hVal : ∀ W : World, Below w.heap.size w W → Calls Tryd.prog 28 #[.slice (some ⟨b, oz, none⟩) Z.length cz] W fun e w' => Ans W V e w' := by
    intro W hb
    have := trim_val b oz cz A V W (by rw [hZ]; exact hzA.low hb) hA hV (by rw [hZ]; exact hzc) (by rw [hZ]; omega) (hT.below hb)
    rw [hZ] at this
    exact this
  clear hzv hrv
  have HLl := (show Hid _ from hLl)
  have HMl := (show Hid _ from hMl)
  have HX := (show Hid _ from hX)
  have HZ := (show Hid _ from hZ)
  clear hparts hAtL hHd hTl hLl hMl hX hZ hP hQ hL
  go_enter Tryd.func21, Tryd.ntmps21
  go_upto_region 2 with (go_at_call 27; refine (hC1 _ _ _ _ (by simp)).mono ?_; rintro e w1 ⟨rfl, hb1⟩)
  have hbw1 := below_then (hb0 _) hb1
  go_upto_region 3 with (first
    | (go_at_call 28; refine (hTr _ hbw1).mono ?_; rintro e w2 ⟨rfl, hb2⟩; have hbw2 := below_then hbw1 hb2; have hbw3 := fun ob => below_then hbw2 ((Below.refl _ w2).alloc (Nat.le_refl _) ob))
    | (go_at_call 27; refine (hC2 _ _ _ _ (hbw3 _) (by simp)).mono ?_; rintro e w4 ⟨rfl, hb4⟩))
  have hbw4 := below_then (hbw3 _) hb4
  clear hC1 hC2 hTr hb0
  go_wp2_with (first
    | (go_at_call 28; refine (hKey _ hbw4).mono ?_; rintro e w5 ⟨kv, rfl, hkv, hb5⟩; have hbw5 := below_then hbw4 hb5; clear hKey)
    | (go_at_call 28; refine (hVal _ hbw5).mono ?_; rintro e w6 ⟨vv, rfl, hvv, hb6⟩))
  have hall := below_then hbw5 hb6
  exact bodyPost_ret (v := .tuple #[kv, vv, .slice (some ⟨b, oR, none⟩) R.length cR]) (by simp [results, Tryd.results21, go_sem]) rfl
    ⟨kv, vv, _, rfl, hkv.low hb6, hvv, Or.inr ⟨b, oR, cR, rfl, hrc, hrA.low hall⟩, by simp, hall⟩
end Go.Proofs.Qxb6602280aDoor
