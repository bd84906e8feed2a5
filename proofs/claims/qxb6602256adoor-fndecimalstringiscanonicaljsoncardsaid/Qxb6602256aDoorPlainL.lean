/-
  How the library's searches meet a JSON number's text. No Go in it.
-/
import Derived.Test.Qxb6602256aDoorPlainK
import Derived.Lib.IndexAny
import Derived.Lib.IndexMore
import Derived.Lib.SlTrimSet
namespace Go.Proofs.Qxb6602256aDoor.Pl
open Go.Lib

theorem indexAny_skip {a b cs : List UInt8} (h : ∀ c ∈ a, cs.contains c = false) : indexAny (a ++ b) cs = if indexAny b cs = -1 then -1 else indexAny b cs + (a.length : Int) := by
  induction a with
  | nil =>
    simp only [List.nil_append, List.length_nil]
    split
    · assumption
    · simp
  | cons x a ih =>
    have hx := h x (List.mem_cons_self ..)
    have ih := ih (fun c hc => h c (List.mem_cons_of_mem _ hc))
    rw [List.cons_append, show indexAny (x :: (a ++ b)) cs = if cs.contains x then 0 else if indexAny (a ++ b) cs == -1 then -1 else indexAny (a ++ b) cs + 1 from rfl]
    rw [if_neg (by rw [hx]; simp), ih]
    have hge := indexAny_ge cs b
    by_cases hb : indexAny b cs = -1
    · rw [if_pos hb, if_pos (by simp), if_pos hb]
    · rw [if_neg hb, if_neg (by simp; omega), if_neg hb]
      simp only [List.length_cons, Int.natCast_add]
      omega
theorem index_skip {a b : List UInt8} {c : UInt8} (h : ∀ x ∈ a, x ≠ c) : index (a ++ c :: b) [c] = (a.length : Int) := by
  induction a with
  | nil => unfold index; simp [List.isPrefixOf]
  | cons x a ih =>
    have hx := h x (List.mem_cons_self ..)
    have ih := ih (fun c hc => h c (List.mem_cons_of_mem _ hc))
    rw [List.cons_append]
    unfold index
    rw [if_neg (by simp [List.isPrefixOf]; exact fun e => hx e.symm), ih, if_neg (by simp)]
    simp
theorem index_none {a : List UInt8} {c : UInt8} (h : ∀ x ∈ a, x ≠ c) : index a [c] = -1 := by
  induction a with
  | nil => rfl
  | cons x a ih =>
    have hx := h x (List.mem_cons_self ..)
    have ih := ih (fun c hc => h c (List.mem_cons_of_mem _ hc))
    unfold index
    rw [if_neg (by simp [List.isPrefixOf]; exact fun e => hx e.symm), ih]
    rfl
theorem digit_ne {c : UInt8} (h : 48 ≤ c.toNat ∧ c.toNat ≤ 57) {d : UInt8} (hd : d.toNat < 48 ∨ 57 < d.toNat) : c ≠ d := fun e => by subst e; omega

namespace Num
variable {n : Num}
/-- The mantissa's text. -/
def mant (n : Num) : List UInt8 := n.int ++ n.fracText
theorem neg_text (h : n.Ok) : neg n.text = n.sign := by
  have hm := mag_text h
  unfold neg
  unfold text signText
  cases hs : n.sign
  · simp only [Bool.false_eq_true, if_false, List.nil_append]
    cases hi : n.int with
    | nil => exact absurd hi h.int0
    | cons c r =>
      have hd := h.intd
      rw [hi] at hd
      have := digit_ne (d := 45) hd.head (by decide)
      simpa using this
  · simp
theorem mant_no (h : n.Ok) : ∀ c ∈ n.mant, ([101, 69] : List UInt8).contains c = false := by
  intro c hc
  unfold mant fracText at hc
  have : c ≠ 101 ∧ c ≠ 69 := by
    rcases List.mem_append.1 hc with h1 | h1
    · exact ⟨digit_ne (h.intd c h1) (by decide), digit_ne (h.intd c h1) (by decide)⟩
    · split at h1
      · simp at h1
      · rcases List.mem_cons.1 h1 with rfl | h2
        · decide
        · exact ⟨digit_ne (h.fracd c h2) (by decide), digit_ne (h.fracd c h2) (by decide)⟩
  simp [this.1, this.2]
theorem mag_split (h : n.Ok) : mag n.text = n.mant ++ n.expText := by rw [mag_text h, mant, List.append_assoc]
theorem indexAny_exp (h : n.Ok) : indexAny (mag n.text) [101, 69] = if n.exp = [] then -1 else (n.mant.length : Int) := by
  rw [mag_split h, indexAny_skip (mant_no h)]
  unfold expText
  by_cases he : n.exp = []
  · rw [if_pos he, if_pos he]
    rfl
  · rw [if_neg he, if_neg he]
    have : indexAny (n.mark :: (n.esign ++ n.exp)) [101, 69] = 0 := by
      unfold indexAny
      rw [if_pos]
      rcases h.mark with e | e <;> rw [e] <;> rfl
    rw [this]
    simp
theorem take_mant (h : n.Ok) : (mag n.text).take n.mant.length = n.mant := by rw [mag_split h]; simp
theorem drop_mant (h : n.Ok) (he : n.exp ≠ []) : (mag n.text).drop (n.mant.length + 1) = n.esign ++ n.exp := by
  rw [mag_split h]
  unfold expText
  rw [if_neg he]
  rw [List.drop_append]
  simp
theorem mant_all (h : n.Ok) (he : n.exp = []) : mag n.text = n.mant := by
  rw [mag_split h]
  unfold expText
  rw [if_pos he]
  simp
theorem cut_mant (h : n.Ok) : (cut n.mant [46]).1 = n.int ∧ (cut n.mant [46]).2.1 = n.frac := by
  have hi : ∀ x ∈ n.int, x ≠ 46 := fun x hx => digit_ne (h.intd x hx) (by decide)
  unfold mant fracText
  by_cases hf : n.frac = []
  · rw [if_pos hf, List.append_nil]
    unfold cut
    rw [index_none hi, if_neg (by decide)]
    exact ⟨rfl, hf.symm⟩
  · rw [if_neg hf]
    unfold cut
    rw [index_skip hi, if_pos (by omega)]
    refine ⟨by simp, ?_⟩
    simp only [Int.toNat_natCast, List.length_singleton]
    rw [List.drop_append]
    simp
theorem ascii (h : n.Ok) : ∀ c ∈ mag n.text, c.toNat < 128 := by
  intro c hc
  rw [mag_text h] at hc
  have hD : ∀ {l : List UInt8}, AllD l → c ∈ l → c.toNat < 128 := fun hl hm => by have := hl c hm; omega
  rcases List.mem_append.1 hc with h1 | h1
  · exact hD h.intd h1
  · rcases List.mem_append.1 h1 with h2 | h2
    · unfold fracText at h2
      split at h2
      · simp at h2
      · rcases List.mem_cons.1 h2 with rfl | h3
        · decide
        · exact hD h.fracd h3
    · unfold expText at h2
      split at h2
      · simp at h2
      · rcases List.mem_cons.1 h2 with rfl | h3
        · rcases h.mark with e | e <;> rw [e] <;> decide
        · rcases List.mem_append.1 h3 with h4 | h4
          · rcases h.esign with e | e | e <;> rw [e] at h4 <;> simp at h4 <;> rw [h4] <;> decide
          · exact hD h.expd h4
theorem lens (h : n.Ok) : n.int.length + n.frac.length ≤ n.text.length ∧ (n.esign ++ n.exp).length ≤ n.text.length + 1 ∧ (n.exp ≠ [] → (n.esign ++ n.exp).length + n.int.length + n.frac.length + 1 ≤ n.text.length) := by
  have hes : n.esign.length ≤ 1 := by rcases h.esign with e | e | e <;> rw [e] <;> simp
  unfold text fracText expText signText
  by_cases hf : n.frac = [] <;> by_cases he : n.exp = [] <;> cases n.sign <;> simp [hf, he] <;> omega
/-- The sign and zeros cut off the exponent. -/
theorem trim_exp (h : n.Ok) : strip (trimLeftS (n.esign ++ n.exp) [43, 45]) = strip n.exp := by
  have : trimLeftS (n.esign ++ n.exp) [43, 45] = n.exp := by
    have h0 : trimLeftS n.exp [43, 45] = n.exp := by
      unfold trimLeftS
      cases hx : n.exp with
      | nil => rfl
      | cons c r =>
        have hd := h.expd
        rw [hx] at hd
        have h1 := digit_ne (d := 43) hd.head (by decide)
        have h2 := digit_ne (d := 45) hd.head (by decide)
        simp [h1, h2]
    rcases h.esign with e | e | e
    · rw [e, List.nil_append, h0]
    · rw [e]; unfold trimLeftS at h0 ⊢; simpa using h0
    · rw [e]; unfold trimLeftS at h0 ⊢; simpa using h0
  rw [this]
theorem neg_exp (h : n.Ok) (he : n.exp ≠ []) : neg (n.esign ++ n.exp) = decide (n.esign = [45]) := by
  unfold neg
  rcases h.esign with e | e | e
  · rw [e]
    cases hx : n.exp with
    | nil => exact absurd hx he
    | cons c r =>
      have hd := h.expd
      rw [hx] at hd
      have h2 := digit_ne (d := 45) hd.head (by decide)
      simp [h2]
  · rw [e]; simp
  · rw [e]; simp
end Num
end Go.Proofs.Qxb6602256aDoor.Pl
