/-
  The plain mathematics of JSON numbers: their grammar, and the decimal that one stands for. No Go in it.
-/
import Derived.Test.Qxb6602256aDoorPlain
namespace Go.Proofs.Qxb6602256aDoor.Pl
open Go.Lib

def isD (c : UInt8) : Bool := decide (48 ≤ c.toNat) && decide (c.toNat ≤ 57)
theorem isD_iff (c : UInt8) : isD c = true ↔ 48 ≤ c.toNat ∧ c.toNat ≤ 57 := by simp [isD]
def dw (l : List UInt8) : List UInt8 := l.dropWhile isD
def dt (l : List UInt8) : List UInt8 := l.takeWhile isD
def startsD : List UInt8 → Bool
  | [] => false
  | c :: _ => isD c

theorem dt_dw (l : List UInt8) : dt l ++ dw l = l := List.takeWhile_append_dropWhile
theorem dt_all (l : List UInt8) : AllD (dt l) := fun c hc => by
  have : ∀ (l : List UInt8), ∀ x ∈ l.takeWhile isD, isD x = true := by
    intro l
    induction l with
    | nil => intro x hx; simp at hx
    | cons a r ih =>
      intro x hx
      by_cases h : isD a = true
      · simp only [List.takeWhile_cons, h, if_true, List.mem_cons] at hx
        rcases hx with rfl | hx
        · exact h
        · exact ih x hx
      · simp [h] at hx
  exact (isD_iff c).1 (this l c hc)
theorem dt_ne {l : List UInt8} (h : startsD l = true) : dt l ≠ [] := by
  cases l with
  | nil => simp [startsD] at h
  | cons c r => simp only [startsD] at h; simp [dt, h]
theorem dt_head {l : List UInt8} {c : UInt8} {r : List UInt8} (hl : l = c :: r) (h : isD c = true) : (dt l).head? = some c := by subst hl; simp [dt, h]
/-- Digits, and behind them something that does not begin with one. -/
theorem dw_append {a b : List UInt8} (ha : AllD a) (hb : startsD b = false) : dw (a ++ b) = b := by
  unfold dw
  induction a with
  | nil =>
    cases b with
    | nil => rfl
    | cons c r => simp only [startsD] at hb; simp [hb]
  | cons x a ih =>
    have h1 := (isD_iff x).2 ha.head
    rw [List.cons_append, List.dropWhile_cons, if_pos h1]
    exact ih ha.tail
theorem startsD_append {a b : List UInt8} (ha : AllD a) (h0 : a ≠ []) : startsD (a ++ b) = true := by
  cases a with
  | nil => exact absurd rfl h0
  | cons x a => simp only [List.cons_append, startsD]; exact (isD_iff x).2 ha.head

/-! ### The grammar, as a scan -/
/-- The exponent (if there is one) and the end. -/
def vSign (t : List UInt8) : List UInt8 := if t.head? = some 43 ∨ t.head? = some 45 then t.tail else t
def vExp (r : List UInt8) : Bool :=
  match r with
  | [] => true
  | c :: t => if c = 101 ∨ c = 69 then startsD (vSign t) && (dw (vSign t)).isEmpty else false
def vFrac (r : List UInt8) : Bool :=
  match r with
  | [] => true
  | c :: t => if c = 46 then startsD t && vExp (dw t) else vExp r
def vInt (r : List UInt8) : Bool :=
  match r with
  | [] => false
  | c :: t => if c = 48 then vFrac t else if isD c then vFrac (dw r) else false
def validB (l : List UInt8) : Bool := vInt (mag l)

/-! ### The parts of a JSON number -/
structure Num where
  sign : Bool
  int : List UInt8
  frac : List UInt8
  mark : UInt8
  esign : List UInt8
  exp : List UInt8

namespace Num
def fracText (n : Num) : List UInt8 := if n.frac = [] then [] else 46 :: n.frac
def expText (n : Num) : List UInt8 := if n.exp = [] then [] else n.mark :: (n.esign ++ n.exp)
def signText (n : Num) : List UInt8 := if n.sign then [45] else []
def text (n : Num) : List UInt8 := n.signText ++ (n.int ++ (n.fracText ++ n.expText))
structure Ok (n : Num) : Prop where
  int0 : n.int ≠ []
  intd : AllD n.int
  inth : n.int = [48] ∨ n.int.head? ≠ some 48
  fracd : AllD n.frac
  expd : AllD n.exp
  mark : n.mark = 101 ∨ n.mark = 69
  esign : n.esign = [] ∨ n.esign = [43] ∨ n.esign = [45]

theorem startsD_exp {n : Num} (h : n.Ok) : startsD n.expText = false := by
  unfold expText
  split
  · rfl
  · simp only [startsD]
    rcases h.mark with e | e <;> rw [e] <;> rfl
theorem startsD_frac {n : Num} (h : n.Ok) : startsD (n.fracText ++ n.expText) = false := by
  unfold fracText
  split
  · rw [List.nil_append]; exact startsD_exp h
  · rfl
theorem vSign_exp {n : Num} (h : n.Ok) (h0 : n.exp ≠ []) : vSign (n.esign ++ n.exp) = n.exp := by
  unfold vSign
  rcases h.esign with e | e | e
  · rw [e, List.nil_append]
    rw [if_neg]
    cases hx : n.exp with
    | nil => exact absurd hx h0
    | cons c r =>
      have hd := h.expd
      rw [hx] at hd
      have := hd.head
      simp only [List.head?_cons, Option.some.injEq]
      rintro (rfl | rfl) <;> simp at this
  · rw [e]; simp
  · rw [e]; simp
theorem vExp_text {n : Num} (h : n.Ok) : vExp n.expText = true := by
  unfold expText
  split
  · rfl
  · rename_i h0
    simp only [vExp]
    rw [if_pos h.mark, vSign_exp h h0]
    have h1 := startsD_append (b := []) h.expd h0
    have h2 := dw_append (b := []) h.expd rfl
    rw [List.append_nil] at h1 h2
    rw [h1, h2]
    rfl
theorem vFrac_text {n : Num} (h : n.Ok) : vFrac (n.fracText ++ n.expText) = true := by
  unfold fracText
  split
  · rw [List.nil_append]
    have hv := vExp_text h
    unfold vFrac
    cases hx : n.expText with
    | nil => rfl
    | cons c t =>
      rw [hx] at hv
      dsimp only
      rw [if_neg, hv]
      intro e
      subst e
      simp [vExp] at hv
  · rename_i h0
    rw [List.cons_append]
    simp only [vFrac, if_true]
    rw [startsD_append h.fracd h0, dw_append h.fracd (startsD_exp h), vExp_text h]
    rfl
theorem mag_text {n : Num} (h : n.Ok) : mag n.text = n.int ++ (n.fracText ++ n.expText) := by
  unfold text signText mag
  cases hs : n.sign
  · simp only [Bool.false_eq_true, if_false, List.nil_append]
    rw [if_neg]
    cases hi : n.int with
    | nil => exact absurd hi h.int0
    | cons c r =>
      have hd := h.intd
      rw [hi] at hd
      have := hd.head
      simp only [List.cons_append, List.head?_cons, Option.some.injEq]
      rintro rfl
      simp at this
  · simp
theorem valid_text {n : Num} (h : n.Ok) : validB n.text = true := by
  unfold validB
  rw [mag_text h]
  cases hi : n.int with
  | nil => exact absurd hi h.int0
  | cons c r =>
    have hd := h.intd
    rw [hi] at hd
    rw [List.cons_append]
    simp only [vInt]
    by_cases hc : c = 48
    · rw [if_pos hc]
      rcases h.inth with e | e
      · rw [hi] at e
        simp only [List.cons.injEq] at e
        rw [e.2, List.nil_append]
        exact vFrac_text h
      · rw [hi] at e
        simp [hc] at e
    · rw [if_neg hc, if_pos ((isD_iff c).2 hd.head), ← List.cons_append, dw_append hd (startsD_frac h)]
      exact vFrac_text h
end Num

/-! ### What passes the scan has such parts -/
theorem vExp_parts {r : List UInt8} (h : vExp r = true) : ∃ (m : UInt8) (sg E : List UInt8), (m = 101 ∨ m = 69) ∧ (sg = [] ∨ sg = [43] ∨ sg = [45]) ∧ AllD E ∧ r = (if E = [] then [] else m :: (sg ++ E)) := by
  cases r with
  | nil => exact ⟨101, [], [], Or.inl rfl, Or.inl rfl, AllD.nil, rfl⟩
  | cons c t =>
    simp only [vExp] at h
    split at h
    · rename_i hm
      rw [Bool.and_eq_true, List.isEmpty_iff] at h
      obtain ⟨h1, h2⟩ := h
      have e := dt_dw (vSign t)
      rw [h2, List.append_nil] at e
      have hne := dt_ne h1
      rw [e] at hne
      have hd := dt_all (vSign t)
      rw [e] at hd
      obtain ⟨sg, hsg, ht⟩ : ∃ sg : List UInt8, (sg = [] ∨ sg = [43] ∨ sg = [45]) ∧ t = sg ++ vSign t := by
        unfold vSign
        cases t with
        | nil => exact ⟨[], Or.inl rfl, by simp⟩
        | cons d u =>
          by_cases hd : d = 43 ∨ d = 45
          · refine ⟨[d], ?_, ?_⟩
            · rcases hd with rfl | rfl
              · exact Or.inr (Or.inl rfl)
              · exact Or.inr (Or.inr rfl)
            · rw [if_pos (by simpa using hd)]; rfl
          · exact ⟨[], Or.inl rfl, by rw [if_neg (by simpa using hd)]; rfl⟩
      refine ⟨c, sg, vSign t, hm, hsg, hd, ?_⟩
      rw [if_neg hne, ← ht]
    · exact absurd h (by simp)
theorem vFrac_parts {r : List UInt8} (h : vFrac r = true) : ∃ (F r' : List UInt8), AllD F ∧ vExp r' = true ∧ r = (if F = [] then [] else 46 :: F) ++ r' := by
  cases r with
  | nil => exact ⟨[], [], AllD.nil, rfl, rfl⟩
  | cons c t =>
    simp only [vFrac] at h
    split at h
    · rename_i hc
      subst hc
      rw [Bool.and_eq_true] at h
      refine ⟨dt t, dw t, dt_all t, h.2, ?_⟩
      rw [if_neg (dt_ne h.1), List.cons_append, dt_dw]
    · exact ⟨[], c :: t, AllD.nil, h, by simp⟩
theorem vInt_parts {r : List UInt8} (h : vInt r = true) : ∃ (I r' : List UInt8), I ≠ [] ∧ AllD I ∧ (I = [48] ∨ I.head? ≠ some 48) ∧ vFrac r' = true ∧ r = I ++ r' := by
  cases r with
  | nil => simp [vInt] at h
  | cons c t =>
    simp only [vInt] at h
    split at h
    · rename_i hc
      subst hc
      exact ⟨[48], t, by simp, AllD.one (by decide), Or.inl rfl, h, rfl⟩
    · rename_i hc
      split at h
      · rename_i hd
        refine ⟨dt (c :: t), dw (c :: t), dt_ne (by simpa [startsD] using hd), dt_all _, Or.inr ?_, h, (dt_dw _).symm⟩
        rw [dt_head rfl hd]
        simpa using hc
      · exact absurd h (by simp)
theorem valid_parts {l : List UInt8} (h : validB l = true) : ∃ n : Num, n.Ok ∧ l = n.text := by
  obtain ⟨I, r1, hI0, hId, hIh, h1, e1⟩ := vInt_parts h
  obtain ⟨F, r2, hF, h2, e2⟩ := vFrac_parts h1
  obtain ⟨m, sg, E, hm, hsg, hE, e3⟩ := vExp_parts h2
  refine ⟨⟨neg l, I, F, m, sg, E⟩, ⟨hI0, hId, hIh, hF, hE, hm, hsg⟩, ?_⟩
  unfold Num.text Num.signText Num.fracText Num.expText
  dsimp only
  rw [← e3, ← e2, ← e1]
  unfold neg mag
  cases l with
  | nil => rfl
  | cons c r =>
    by_cases hc : c = 45
    · subst hc; simp
    · simp [hc]
end Go.Proofs.Qxb6602256aDoor.Pl
