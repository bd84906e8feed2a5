/-
  The written line and its parts. (No Go but the words of the walks.)
-/
import Derived.Test.Qxb6602280aDoorWalksF
namespace Go.Proofs.Qxb6602280aDoor

/-- Between line and newline: key and value with blanks A around each, sep between. -/
def lineOf (A K V : List UInt8) (s : UInt8) : List UInt8 := A ++ (K ++ (A ++ (s :: (A ++ (V ++ A)))))
def lead (A K : List UInt8) : List UInt8 := if K = [] then A ++ A else A
def before (A K : List UInt8) : List UInt8 := if K = [] then [] else K ++ A
def after (A V : List UInt8) : List UInt8 := if V = [] then [] else A ++ V
theorem line_parts (A K V : List UInt8) (s : UInt8) : lineOf A K V s = lead A K ++ ((before A K ++ s :: after A V) ++ lead A V) := by
  unfold lineOf lead before after
  by_cases hK : K = [] <;> by_cases hV : V = [] <;> simp [hK, hV]
theorem lead_blank {A K : List UInt8} (hA : ∀ x ∈ A, blank x = true) : ∀ x ∈ lead A K, blank x = true := by
  intro x hx
  unfold lead at hx
  split at hx
  · exact (List.mem_append.1 hx).elim (hA x) (hA x)
  · exact hA x hx
theorem pr_solid {c : UInt8} (h : Pr c) : c.toNat < 128 ∧ blank c = false := by
  obtain ⟨h1, h2⟩ := h
  refine ⟨by omega, ?_⟩
  rw [Bool.eq_false_iff]
  intro hb
  simp only [blank, Bool.or_eq_true, beq_iff_eq] at hb
  rcases hb with ((((rfl | rfl) | rfl) | rfl) | rfl) | rfl <;> revert h1 <;> decide
theorem edges_head {l : List UInt8} (h : Edges l) (h0 : l ≠ []) : ∃ x T, l = x :: T ∧ Pr x := by
  rcases h with h | ⟨⟨a, ha, hp⟩, _⟩
  · exact absurd h h0
  · cases l with
    | nil => exact absurd rfl h0
    | cons x T => exact ⟨x, T, rfl, by simp at ha; rw [ha]; exact hp⟩
theorem edges_tail {l : List UInt8} (h : Edges l) (h0 : l ≠ []) : ∃ T x, l = T ++ [x] ∧ Pr x := by
  rcases h with h | ⟨_, z, hz, hp⟩
  · exact absurd h h0
  · refine ⟨l.dropLast, z, ?_, hp⟩
    rw [List.getLast?_eq_some_iff] at hz
    obtain ⟨t, rfl⟩ := hz
    simp
/-- What the sep is: no blank. -/
theorem line_head {A K V : List UInt8} {s : UInt8} (hA : ∀ x ∈ A, blank x = true) (hK : Edges K) (hV : Edges V) (hs : blank s = false) : Head ((before A K ++ s :: after A V) ++ lead A V) := by
  by_cases hK0 : K = []
  · have e : (before A K ++ s :: after A V) ++ lead A V = s :: (after A V ++ lead A V) := by simp [before, hK0]
    rw [e]
    refine ⟨s, after A V ++ lead A V, rfl, ?_⟩
    rcases Nat.lt_or_ge s.toNat 128 with h | h
    · exact Or.inl ⟨h, hs⟩
    · refine Or.inr ⟨h, ?_⟩
      cases hT : after A V ++ lead A V with
      | nil => exact Or.inl rfl
      | cons y U =>
        refine Or.inr ⟨y, U, rfl, ?_⟩
        by_cases hV0 : V = []
        · simp only [after, lead, hV0, if_true, List.nil_append] at hT
          have : y ∈ A ++ A := by rw [hT]; exact List.mem_cons_self ..
          exact blank_lt ((List.mem_append.1 this).elim (hA y) (hA y))
        · obtain ⟨x, T, hx, hp⟩ := edges_head hV hV0
          simp only [after, if_neg hV0] at hT
          cases hAc : A with
          | nil =>
            rw [hAc, hx] at hT
            simp at hT
            rw [← hT.1]
            exact (pr_solid hp).1
          | cons a A' =>
            rw [hAc] at hT
            simp at hT
            rw [← hT.1]
            exact blank_lt (hA a (by rw [hAc]; exact List.mem_cons_self ..))
  · obtain ⟨x, T, hx, hp⟩ := edges_head hK hK0
    refine ⟨x, T ++ A ++ (s :: after A V) ++ lead A V, ?_, Or.inl (pr_solid hp)⟩
    rw [before, if_neg hK0, hx]
    simp
theorem line_tail {A K V : List UInt8} {s : UInt8} (hA : ∀ x ∈ A, blank x = true) (hK : Edges K) (hV : Edges V) (hs : blank s = false) : Tail (before A K ++ s :: after A V) := by
  by_cases hV0 : V = []
  · refine ⟨before A K, s, by simp [after, hV0], ?_⟩
    rcases Nat.lt_or_ge s.toNat 128 with h | h
    · exact Or.inl ⟨h, hs⟩
    · refine Or.inr ⟨h, ?_⟩
      by_cases hK0 : K = []
      · exact Or.inl (by simp [before, hK0])
      · right
        rw [before, if_neg hK0]
        rcases List.eq_nil_or_concat A with hA0 | ⟨A', a, hA0⟩
        · obtain ⟨T, x, hx, hp⟩ := edges_tail hK hK0
          exact ⟨T, x, by rw [hA0, hx]; simp, (pr_solid hp).1⟩
        · rw [List.concat_eq_append] at hA0
          exact ⟨K ++ A', a, by rw [hA0]; simp, blank_lt (hA a (by rw [hA0]; simp))⟩
  · obtain ⟨T, x, hx, hp⟩ := edges_tail hV hV0
    refine ⟨before A K ++ s :: (A ++ T), x, ?_, Or.inl (pr_solid hp)⟩
    rw [after, if_neg hV0, hx]
    simp
end Go.Proofs.Qxb6602280aDoor
