/-
  How a scan by words and separators meets the automaton. No Go in it.
-/
import Derived.Test.Qxb6602733aDoorPlain
namespace Go.Proofs.Qxb6602733aDoor.Pl
open Go.Lib

def mid (l : List UInt8) (a b : Nat) : List UInt8 := (l.drop a).take (b - a)
theorem take_mid (l : List UInt8) {a b : Nat} (h : a ≤ b) : l.take b = l.take a ++ mid l a b := by
  have := List.take_add (l := l) (i := a) (j := b - a)
  rw [show a + (b - a) = b by omega] at this
  exact this
theorem mid_all {l : List UInt8} {a b : Nat} {p : UInt8 → Prop} (h : ∀ j (hj : j < l.length), a ≤ j → j < b → p l[j]) : ∀ c ∈ mid l a b, p c := by
  intro c hc
  obtain ⟨i, hi, e⟩ := List.getElem_of_mem hc
  unfold mid at hi e
  rw [List.length_take, List.length_drop] at hi
  rw [List.getElem_take, List.getElem_drop] at e
  rw [← e]
  exact h (a + i) (by omega) (by omega) (by omega)
theorem mid_ne {l : List UInt8} {a b : Nat} (h : a < b) (hb : b ≤ l.length) : mid l a b ≠ [] := by
  intro e
  have := congrArg List.length e
  unfold mid at this
  rw [List.length_take, List.length_drop, List.length_nil] at this
  omega
/-- Between words: at the head, or behind a separator. -/
def Out (l : List UInt8) (k : Nat) : Prop := run 0 (l.take k) ≠ 1 ∧ run 0 (l.take k) ≠ 6 ∧ (k = 0 ∨ ∀ h : k < l.length, al l[k] = true)
theorem out_zero (l : List UInt8) : Out l 0 := ⟨by simp [run], by simp [run], Or.inl rfl⟩
theorem out_end {l : List UInt8} {k : Nat} (h : Out l k) (hk : l.length ≤ k) : pc l = false := by
  have := h.1
  rw [List.take_of_length_le hk] at this
  simpa [pc] using this
theorem out_bad {l : List UInt8} {k : Nat} (h : Out l k) (hk : k < l.length) (hn : al l[k] = false) : pc l = false := by
  rcases h.2.2 with rfl | h2
  · cases l with
    | nil => rfl
    | cons c r =>
      have hn' : al c = false := hn
      have : run 0 (c :: r) = 6 := by
        rw [run_cons, step_no hn']
        simp
        exact run_dead r
      simp [pc, this]
  · rw [h2 hk] at hn; cases hn
theorem word_run {l : List UInt8} {k q : Nat} (h : Out l k) (hk : k < q) (hq : q ≤ l.length) (ha : ∀ j (hj : j < l.length), k ≤ j → j < q → al l[j] = true) : run 0 (l.take q) = 1 := by
  rw [take_mid l (Nat.le_of_lt hk), run_append]
  exact run_word h.2.1 _ (mid_ne hk hq) (mid_all ha)
theorem word_end {l : List UInt8} {q : Nat} (h : run 0 (l.take q) = 1) (hq : l.length ≤ q) : pc l = true := by
  rw [List.take_of_length_le hq] at h
  simp [pc, h]
theorem sep_bad {l : List UInt8} {q r : Nat} (h : run 0 (l.take q) = 1) (hk : q < r) (hr : r ≤ l.length) (hn : ∀ j (hj : j < l.length), q ≤ j → j < r → al l[j] = false) (hs : sepOk (mid l q r) = false) : pc l = false := by
  have h1 : run 0 (l.take r) = 6 := by
    rw [take_mid l (Nat.le_of_lt hk), run_append, h]
    exact (run_sep _ (mid_ne hk hr) (mid_all hn)).2 hs
  have h2 : run 0 l = 6 := by
    rw [← List.take_append_drop r l, run_append, h1, run_dead]
  simp [pc, h2]
theorem sep_ok {l : List UInt8} {q r : Nat} (h : run 0 (l.take q) = 1) (hk : q < r) (hr : r ≤ l.length) (hn : ∀ j (hj : j < l.length), q ≤ j → j < r → al l[j] = false) (hs : sepOk (mid l q r) = true) (ha : ∀ hr : r < l.length, al l[r] = true) : Out l r := by
  have h1 := (run_sep _ (mid_ne hk hr) (mid_all hn)).1 hs
  rw [← h, ← run_append, ← take_mid l (Nat.le_of_lt hk), h] at h1
  exact ⟨h1.1, h1.2, Or.inr ha⟩
end Go.Proofs.Qxb6602733aDoor.Pl
