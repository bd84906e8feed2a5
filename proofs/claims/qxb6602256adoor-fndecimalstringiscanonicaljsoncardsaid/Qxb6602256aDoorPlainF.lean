/-
  The form of the text that String writes, as zzFormOK asks for it.
-/
import Derived.Test.Qxb6602256aDoorWalksG
import Derived.Test.Qxb6602256aDoorPlainS
namespace Go.Proofs.Qxb6602256aDoor
open Go.RowKit

theorem at_of {S : List UInt8} {j : Nat} {c : UInt8} (hc : S[j]? = some c) (h : j < (ByteArray.mk S.toArray).size) : (ByteArray.mk S.toArray)[j] = c := by
  obtain ⟨h1, h2⟩ := List.getElem?_eq_some_iff.1 hc
  exact h2
theorem mem_of {S : List UInt8} {j : Nat} (h : j < (ByteArray.mk S.toArray).size) : (ByteArray.mk S.toArray)[j] ∈ S := List.getElem_mem (l := S) (n := j) h
theorem mk_size (S : List UInt8) : (ByteArray.mk S.toArray).size = S.length := size_list _

theorem sgn_mem {b : Bool} {c : UInt8} (h : c ∈ sgn b) : c = 45 := by
  unfold sgn at h
  cases b <;> simp at h
  exact h
theorem frc_mem {r : List UInt8} {c : UInt8} (h : c ∈ frc r) : c = 46 ∨ c ∈ r := by
  unfold frc at h
  split at h
  · simp at h
  · simpa using h
theorem dig_ne {c : UInt8} (h : 48 ≤ c.toNat ∧ c.toNat ≤ 57) : c ≠ 45 ∧ c ≠ 46 ∧ c ≠ 69 ∧ c ≠ 101 ∧ c ≠ 43 := by
  refine ⟨?_, ?_, ?_, ?_, ?_⟩ <;> (rintro rfl; revert h; decide)
theorem last_append {a b : List UInt8} (hb : b ≠ []) : (a ++ b).getLast? = b.getLast? := by
  rw [List.getLast?_append]
  cases h : b.getLast? with
  | none => rw [List.getLast?_eq_none_iff] at h; exact absurd h hb
  | some x => rfl

theorem form_text {d : Pl.Dec} {E : Int} (h : Pl.Of d E) (w : World) (hl : (strD d).length ≤ 2000000) :
    Calls Tryd.prog 25 #[.string ⟨(strD d).toArray⟩, .bool (sciB d.far d.exp)] w fun e w' => e = .returned (.bool true) ∧ w' = w := by
  have hsz := mk_size (strD d)
  obtain ⟨hall, hne, hhead, hlast⟩ := h.digs
  obtain ⟨c, r, hd⟩ := List.exists_cons_of_ne_nil hne
  cases hs : sciB d.far d.exp with
  | true =>
    have hb := sci_big h hs
    have hc : 48 ≤ c.toNat ∧ c.toNat ≤ 57 := by rw [hd] at hall; exact hall.head
    have hr : Pl.AllD r := by rw [hd] at hall; exact hall.tail
    have hc48 : c ≠ 48 := by rw [hd] at hhead; simpa using hhead
    obtain ⟨X, hX⟩ : ∃ X, Pl.itxt (E - 1) = X := ⟨_, rfl⟩
    have hS : strD d = sgn d.neg ++ (c :: (frc r ++ 101 :: X)) := by
      rw [strD, if_neg hne]
      unfold strL
      rw [if_pos hs, expTxt_of h, Pl.sum_itxt (by omega), hX, hd]
      simp
    have hXs : X = (if E - 1 < 0 then [45] else []) ++ Lib.decDigits (E - 1).natAbs := by rw [← hX, Pl.itxt_sign]
    have hN := Pl.dec_all (E - 1).natAbs
    have hN0 := Pl.dec_ne (E - 1).natAbs
    have hNh := Pl.dec_head (u := (E - 1).natAbs) (by omega)
    obtain ⟨x, y, hxy⟩ := List.exists_cons_of_ne_nil hN0
    rw [hxy] at hN hNh hXs
    have hx : 48 ≤ x.toNat ∧ x.toNat ≤ 57 := hN.head
    have hx48 : x ≠ 48 := by simpa using hNh
    obtain ⟨k, hk⟩ : ∃ k, (sgn d.neg).length = k := ⟨_, rfl⟩
    obtain ⟨p, hp⟩ : ∃ p, k + 1 + (frc r).length = p := ⟨_, rfl⟩
    rw [hS] at hsz hl ⊢
    clear hS
    have atk : ∀ j, (sgn d.neg ++ (c :: (frc r ++ 101 :: X)))[k + j]? = (c :: (frc r ++ 101 :: X))[j]? := fun j => by
      rw [List.getElem?_append_right (by omega), hk]
      congr 1
      omega
    have atp : ∀ j, (sgn d.neg ++ (c :: (frc r ++ 101 :: X)))[p + j]? = (101 :: X)[j]? := fun j => by
      rw [show p + j = k + (1 + (frc r).length + j) by omega, atk]
      rw [show 1 + (frc r).length + j = ((frc r).length + j) + 1 by omega, List.getElem?_cons_succ, List.getElem?_append_right (by omega)]
      congr 1
      omega
    have hmem : ∀ z ∈ sgn d.neg ++ (c :: (frc r ++ 101 :: X)), z = 45 ∨ z = 46 ∨ z = 101 ∨ (48 ≤ z.toNat ∧ z.toNat ≤ 57) := by
      intro z hz
      rcases List.mem_append.1 hz with h1 | h1
      · exact Or.inl (sgn_mem h1)
      rcases List.mem_cons.1 h1 with rfl | h2
      · exact Or.inr (Or.inr (Or.inr hc))
      rcases List.mem_append.1 h2 with h3 | h3
      · rcases frc_mem h3 with rfl | h4
        · exact Or.inr (Or.inl rfl)
        · exact Or.inr (Or.inr (Or.inr (hr z h4)))
      rcases List.mem_cons.1 h3 with rfl | h4
      · exact Or.inr (Or.inr (Or.inl rfl))
      · rw [hXs] at h4
        rcases List.mem_append.1 h4 with h5 | h5
        · split at h5
          · simp at h5; exact Or.inl h5
          · simp at h5
        · exact Or.inr (Or.inr (Or.inr (hN z h5)))
    have hXl : X.length = (if E - 1 < 0 then 1 else 0) + (y.length + 1) := by
      rw [hXs, List.length_append, List.length_cons]
      split <;> simp
    have hlen : (sgn d.neg ++ (c :: (frc r ++ 101 :: X))).length = p + 1 + X.length := by
      simp only [List.length_append, List.length_cons]
      omega
    have hfirst : ∀ j, j < p → ∀ z, (sgn d.neg ++ (c :: (frc r ++ 101 :: X)))[j]? = some z → z ≠ 101 := by
      intro j hj z hz
      have e : sgn d.neg ++ (c :: (frc r ++ 101 :: X)) = (sgn d.neg ++ (c :: frc r)) ++ (101 :: X) := by simp
      rw [e, List.getElem?_append_left (by rw [List.length_append, List.length_cons]; omega)] at hz
      have hm := List.mem_of_getElem? hz
      rcases List.mem_append.1 hm with h1 | h1
      · rw [sgn_mem h1]; decide
      rcases List.mem_cons.1 h1 with rfl | h2
      · exact (dig_ne hc).2.2.2.1
      rcases frc_mem h2 with rfl | h3
      · decide
      · exact (dig_ne (hr z h3)).2.2.2.1
    obtain ⟨L, hL⟩ : ∃ L, sgn d.neg ++ (c :: (frc r ++ 101 :: X)) = L := ⟨_, rfl⟩
    rw [hL] at hsz hl atk atp hmem hlen hfirst ⊢
    have hX1 : 0 < X.length := by omega
    refine form_sci _ w (by rw [hsz]; omega) k p ⟨?_, by omega, by rw [hsz]; omega, fun hh => ?_, ?_, fun j hj hjp => ?_, fun hh => at_of (atp 0) hh, fun j hj => ?_, fun hh => ?_, ?_⟩
    · cases hn : d.neg with
      | true =>
        right
        rw [hn] at hk hL
        refine ⟨by rw [← hk]; rfl, fun hh => at_of ?_ hh⟩
        rw [← hL]; rfl
      | false =>
        left
        rw [hn] at hk hL
        refine ⟨by rw [← hk]; rfl, fun hh => ?_⟩
        rw [at_of (c := c) (by rw [← hL]; rfl) hh]
        exact (dig_ne hc).1
    · have e : L[k]? = some c := atk 0
      rw [at_of e hh]
      exact hc48
    · by_cases hr0 : r = []
      · left
        rw [hr0] at hp
        simp [frc] at hp
        omega
      · right
        have hfr : frc r = 46 :: r := by unfold frc; rw [if_neg hr0]
        rw [hfr] at hp atk
        rw [List.length_cons] at hp
        have hr1 : 0 < r.length := Nat.pos_of_ne_zero fun e => hr0 (List.eq_nil_of_length_eq_zero e)
        refine ⟨by omega, fun hh => at_of (atk 1) hh, fun hh => ?_⟩
        obtain ⟨m, hm⟩ : ∃ m, r.length = m + 1 := ⟨r.length - 1, by omega⟩
        have e : (L : List UInt8)[p - 1]? = r.getLast? := by
          rw [show p - 1 = k + (m + 1 + 1) by omega, atk, List.getElem?_cons_succ, List.cons_append, List.getElem?_cons_succ, List.getElem?_append_left (by omega), List.getLast?_eq_getElem?, hm]
          rfl
        have hlr : r.getLast? ≠ some 48 := by
          rw [hd, show c :: r = [c] ++ r from rfl, last_append hr0] at hlast
          exact hlast
        rw [← e] at hlr
        intro e48
        apply hlr
        rw [List.getElem?_eq_getElem (by rw [← hsz]; exact hh)]
        exact congrArg some e48
    · exact hfirst j hjp _ (by rw [List.getElem?_eq_getElem (by rw [← hsz]; exact hj)]; rfl)
    · have hm := hmem _ (mem_of hj)
      intro e
      rw [e] at hm
      revert hm
      decide
    · have hp1 : L[p + 1]? = X[0]? := atp 1
      rw [hXs] at hp1
      by_cases hE : E - 1 < 0
      · rw [if_pos hE] at hp1
        rw [at_of (c := 45) hp1 hh]
        decide
      · rw [if_neg hE] at hp1
        rw [at_of (c := x) hp1 hh]
        exact (dig_ne hx).2.2.2.2
    · have hp1 : L[p + 1]? = X[0]? := atp 1
      have hp2 : L[p + 2]? = X[1]? := atp 2
      rw [hXs] at hp1 hp2
      by_cases hE : E - 1 < 0
      · right
        rw [if_pos hE] at hp1 hp2 hXl
        refine ⟨by rw [hsz]; omega, fun hh => at_of (c := 45) hp1 hh, fun hh => ?_⟩
        rw [at_of (c := x) hp2 hh]
        exact hx48
      · left
        rw [if_neg hE] at hp1
        intro hh
        rw [at_of (c := x) hp1 hh]
        exact ⟨(dig_ne hx).1, hx48⟩
  | false =>
    obtain ⟨hf, _, _⟩ := sciB_no hs
    obtain ⟨S, hS⟩ : ∃ S, strD d = S := ⟨_, rfl⟩
    have key : (∀ z ∈ S, z = 45 ∨ z = 46 ∨ (48 ≤ z.toNat ∧ z.toNat ≤ 57)) ∧ (46 ∈ S → S.getLast? ≠ some 48) := by
      rw [← hS, strD, if_neg hne]
      unfold strL
      rw [if_neg (by rw [hs]; decide)]
      by_cases h1 : d.exp ≤ 0
      · rw [if_pos h1]
        refine ⟨fun z hz => ?_, fun _ => ?_⟩
        · rcases List.mem_append.1 hz with h2 | h2
          · exact Or.inl (sgn_mem h2)
          rcases List.mem_append.1 h2 with h3 | h3
          · rcases List.mem_append.1 h3 with h4 | h4
            · simp at h4
              rcases h4 with rfl | rfl
              · exact Or.inr (Or.inr (by decide))
              · exact Or.inr (Or.inl rfl)
            · exact Or.inr (Or.inr (Pl.zeros_all _ z h4))
          · exact Or.inr (Or.inr (hall z h3))
        · rw [← List.append_assoc, last_append hne]
          exact hlast
      · rw [if_neg h1]
        by_cases h2 : (d.digits.length : Int) ≤ d.exp
        · rw [if_pos h2]
          have hm : ∀ z ∈ sgn d.neg ++ (d.digits ++ List.replicate (d.exp - d.digits.length).toNat 48), z = 45 ∨ (48 ≤ z.toNat ∧ z.toNat ≤ 57) := by
            intro z hz
            rcases List.mem_append.1 hz with h3 | h3
            · exact Or.inl (sgn_mem h3)
            rcases List.mem_append.1 h3 with h4 | h4
            · exact Or.inr (hall z h4)
            · exact Or.inr (Pl.zeros_all _ z h4)
          refine ⟨fun z hz => (hm z hz).elim Or.inl (fun e => Or.inr (Or.inr e)), fun h46 => ?_⟩
          exact absurd (hm _ h46) (by decide)
        · rw [if_neg h2]
          have hdr : d.digits.drop d.exp.toNat ≠ [] := by
            intro e
            have := congrArg List.length e
            rw [List.length_drop, List.length_nil] at this
            omega
          refine ⟨fun z hz => ?_, fun _ => ?_⟩
          · rcases List.mem_append.1 hz with h3 | h3
            · exact Or.inl (sgn_mem h3)
            rcases List.mem_append.1 h3 with h4 | h4
            · rcases List.mem_append.1 h4 with h5 | h5
              · exact Or.inr (Or.inr (hall.take _ z h5))
              · simp at h5; exact Or.inr (Or.inl h5)
            · exact Or.inr (Or.inr (hall.drop _ z h4))
          · rw [← List.append_assoc, last_append hdr]
            have e : d.digits.getLast? = (d.digits.drop d.exp.toNat).getLast? := by
              have := last_append (a := d.digits.take d.exp.toNat) hdr
              rw [List.take_append_drop] at this
              exact this
            rw [← e]
            exact hlast
    rw [hS] at hsz hl ⊢
    refine form_plain _ w (by rw [hsz]; omega) (fun j hj => ?_) (fun j hj => ?_) (fun j hj h46 => ?_)
    · have hm := key.1 _ (mem_of hj)
      intro e
      rw [e] at hm
      revert hm
      decide
    · have hm := key.1 _ (mem_of hj)
      intro e
      rw [e] at hm
      revert hm
      decide
    · have hm : 46 ∈ S := by rw [← h46]; exact mem_of hj
      have hq := key.2 hm
      intro e48
      apply hq
      rw [List.getLast?_eq_getElem?]
      have hlt : S.length - 1 < S.length := by rw [hsz] at hj; omega
      rw [List.getElem?_eq_getElem hlt, ← e48]
      rfl
end Go.Proofs.Qxb6602256aDoor
