/-
  The automaton of a path component, as a fold over bytes. No Go in it.
-/
import Derived.Lib.TrimByte
namespace Go.Proofs.Qxb6602733aDoor.Pl
open Go.Lib

/-- A lower-case letter or a digit. -/
def al (c : UInt8) : Bool := (decide (97 ≤ c.toNat) && decide (c.toNat ≤ 122)) || (decide (48 ≤ c.toNat) && decide (c.toNat ≤ 57))
def step (st : Nat) (c : UInt8) : Nat :=
  if st = 6 then 6 else if al c = true then 1 else if c = 46 ∧ st = 1 then 2 else if c = 95 ∧ st = 1 then 3 else if c = 95 ∧ st = 3 then 4 else if c = 45 ∧ (st = 1 ∨ st = 5) then 5 else 6
def run (st : Nat) (l : List UInt8) : Nat := l.foldl step st
/-- A path component? -/
def pc (l : List UInt8) : Bool := decide (run 0 l = 1)

theorem run_append (st : Nat) (a b : List UInt8) : run st (a ++ b) = run (run st a) b := by simp [run]
theorem run_cons (st : Nat) (c : UInt8) (l : List UInt8) : run st (c :: l) = run (step st c) l := rfl
theorem step_dead (c : UInt8) : step 6 c = 6 := rfl
theorem run_dead (l : List UInt8) : run 6 l = 6 := by
  induction l with
  | nil => rfl
  | cons c r ih => rw [run_cons, step_dead, ih]
theorem step_al {st : Nat} {c : UInt8} (h : st ≠ 6) (hc : al c = true) : step st c = 1 := by rw [step, if_neg h, if_pos hc]
theorem step_lt (st : Nat) (c : UInt8) : step st c ≤ 6 := by
  unfold step
  repeat' split
  all_goals omega
theorem run_lt {st : Nat} (h : st ≤ 6) (l : List UInt8) : run st l ≤ 6 := by
  induction l generalizing st with
  | nil => exact h
  | cons c r ih => rw [run_cons]; exact ih (step_lt _ _)
/-- A word: bytes that are letters or digits, at least one. -/
theorem run_word {st : Nat} (h : st ≠ 6) (l : List UInt8) (h0 : l ≠ []) (hl : ∀ c ∈ l, al c = true) : run st l = 1 := by
  induction l generalizing st with
  | nil => exact absurd rfl h0
  | cons c r ih =>
    rw [run_cons, step_al h (hl c (List.mem_cons_self ..))]
    cases r with
    | nil => rfl
    | cons d t => exact ih (by decide) (by simp) (fun x hx => hl x (List.mem_cons_of_mem _ hx))
theorem al46 : al 46 = false := by decide
theorem al95 : al 95 = false := by decide
theorem al45 : al 45 = false := by decide
/-- No letter or digit: dead, but for the separators' own roads. -/
theorem step_no {st : Nat} {c : UInt8} (hc : al c = false) : step st c = if st = 6 then 6 else if c = 46 ∧ st = 1 then 2 else if c = 95 ∧ st = 1 then 3 else if c = 95 ∧ st = 3 then 4 else if c = 45 ∧ (st = 1 ∨ st = 5) then 5 else 6 := by
  unfold step
  rw [hc]
  simp
/-- A run of hyphens. -/
theorem run_dash (l : List UInt8) (hl : ∀ c ∈ l, c = 45) : run 5 l = 5 := by
  induction l with
  | nil => rfl
  | cons c r ih =>
    rw [run_cons, hl c (List.mem_cons_self ..)]
    exact ih (fun x hx => hl x (List.mem_cons_of_mem _ hx))
theorem run_dash_not (l : List UInt8) (hn : ∀ c ∈ l, al c = false) (hl : ¬ ∀ c ∈ l, c = 45) : run 5 l = 6 := by
  induction l with
  | nil => exact absurd (fun _ h => by cases h) hl
  | cons c r ih =>
    have hc := hn c (List.mem_cons_self ..)
    rw [run_cons, step_no hc]
    by_cases h : c = 45
    · subst h
      exact ih (fun x hx => hn x (List.mem_cons_of_mem _ hx)) (fun hr => hl (fun x hx => (List.mem_cons.1 hx).elim (fun e => e) (hr x)))
    · simp only [h, false_and, if_false]
      simp
      exact run_dead r
/-- The separators. -/
def sepOk (l : List UInt8) : Bool := decide (l = [46]) || decide (l = [95]) || decide (l = [95, 95]) || decide (∀ c ∈ l, c = 45)
theorem run_two {st : Nat} (h2 : st = 2 ∨ st = 4) (l : List UInt8) (h0 : l ≠ []) (hn : ∀ c ∈ l, al c = false) : run st l = 6 := by
  cases l with
  | nil => exact absurd rfl h0
  | cons c r =>
    have hc := hn c (List.mem_cons_self ..)
    rw [run_cons, step_no hc]
    rcases h2 with rfl | rfl <;> simp <;> exact run_dead r
theorem run_three (l : List UInt8) (h0 : l ≠ []) (h1 : l ≠ [95]) (hn : ∀ c ∈ l, al c = false) : run 3 l = 6 := by
  cases l with
  | nil => exact absurd rfl h0
  | cons c r =>
    have hc := hn c (List.mem_cons_self ..)
    rw [run_cons, step_no hc]
    by_cases h : c = 95
    · subst h
      have hr : r ≠ [] := fun e => h1 (by rw [e])
      simp
      exact run_two (Or.inr rfl) r hr (fun x hx => hn x (List.mem_cons_of_mem _ hx))
    · simp [h]
      exact run_dead r
/-- What a run of other bytes does to a word. -/
theorem run_sep (l : List UInt8) (h0 : l ≠ []) (hn : ∀ c ∈ l, al c = false) : (sepOk l = true → run 1 l ≠ 1 ∧ run 1 l ≠ 6) ∧ (sepOk l = false → run 1 l = 6) := by
  cases l with
  | nil => exact absurd rfl h0
  | cons c r =>
    have hc := hn c (List.mem_cons_self ..)
    have hr : ∀ x ∈ r, al x = false := fun x hx => hn x (List.mem_cons_of_mem _ hx)
    by_cases h46 : c = 46
    · subst h46
      rw [run_cons, show step 1 46 = 2 by decide]
      by_cases e : r = []
      · subst e; simp [sepOk, run]
      · refine ⟨fun h => ?_, fun _ => run_two (Or.inl rfl) r e hr⟩
        simp [sepOk, e] at h
    · by_cases h95 : c = 95
      · subst h95
        rw [run_cons, show step 1 95 = 3 by decide]
        by_cases e : r = []
        · subst e; simp [sepOk, run]
        · by_cases e2 : r = [95]
          · subst e2; refine ⟨fun _ => ?_, fun h => ?_⟩
            · decide
            · simp [sepOk] at h
          · refine ⟨fun h => ?_, fun _ => run_three r e e2 hr⟩
            simp [sepOk, e, e2] at h
      · by_cases h45 : c = 45
        · subst h45
          rw [run_cons, show step 1 45 = 5 by decide]
          by_cases hd : ∀ x ∈ r, x = 45
          · rw [run_dash r hd]
            refine ⟨fun _ => by decide, fun h => ?_⟩
            simp [sepOk] at h
            obtain ⟨x, hx, hx2⟩ := h
            exact absurd (hd x hx) hx2
          · refine ⟨fun h => ?_, fun _ => run_dash_not r hr hd⟩
            simp [sepOk] at h
            exact absurd h hd
        · rw [run_cons, step_no hc]
          simp only [h46, h95, h45, false_and, if_false]
          simp
          refine ⟨fun h => ?_, fun _ => run_dead r⟩
          simp [sepOk, h46, h95, h45] at h
/-- strings.Trim by '-' leaves nothing: hyphens alone. -/
theorem trim_dash (l : List UInt8) : trimB l 45 = [] ↔ ∀ c ∈ l, c = 45 := by
  have hall : ∀ (m : List UInt8), m.dropWhile (· == (45 : UInt8)) = [] ↔ ∀ c ∈ m, c = 45 := by
    intro m
    induction m with
    | nil => simp
    | cons a r ih =>
      rw [List.dropWhile_cons]
      by_cases h : a = 45
      · simp [h, ih]
      · simp [h]
  unfold trimB trimLeftB trimRightB
  rw [hall]
  constructor
  · intro h
    have key : ∀ (m : List UInt8), (∀ c ∈ (m.dropWhile (· == (45 : UInt8))), c = 45) → ∀ c ∈ m, c = 45 := by
      intro m
      induction m with
      | nil => intro _ c hc; cases hc
      | cons a r ih =>
        intro hm
        rw [List.dropWhile_cons] at hm
        by_cases h : a = 45
        · rw [if_pos (by simp [h])] at hm
          intro c hc
          rcases List.mem_cons.1 hc with rfl | hc
          · exact h
          · exact ih hm c hc
        · rw [if_neg (by simp [h])] at hm
          exact hm
    intro c hc
    exact key l.reverse (fun c hc => h c (by simpa using hc)) c (by simpa using hc)
  · intro h c hc
    rw [List.mem_reverse] at hc
    have := (List.dropWhile_sublist (· == (45 : UInt8)) (l := l.reverse)).mem hc
    exact h c (by simpa using this)
end Go.Proofs.Qxb6602733aDoor.Pl
