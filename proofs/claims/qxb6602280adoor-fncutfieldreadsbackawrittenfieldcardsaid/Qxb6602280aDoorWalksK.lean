/-
  The line as a row of the call's own.
-/
import Derived.Test.Qxb6602280aDoorWalksJ
namespace Go.Proofs.Qxb6602280aDoor
open Go.RowKit

theorem news_one (w : World) (x : Value) (t : TypeId) : ∀ j u, [x][j]? = some u → (w.alloc (.cells #[x] t)).cell? ((⟨w.heap.size, 0, none⟩ : Addr).add j) = some u := by
  intro j u hj
  match j, hj with
  | 0, hj =>
    simp at hj
    subst hj
    simp [Addr.add]
theorem one_u8 (z : Int) : ∀ u ∈ [Value.int .u8 z], u.oneCell' = true := fun u hu => by simp at hu; subst hu; rfl
theorem own_str {B : Nat} {v : Value} {l : List UInt8} {s : ByteArray} {w : World} (h : w.ownsRow B 5 1 v (l.length + s.size) (cells l ++ Lib.strCells s)) : Own B v (l ++ s.data.toList) w := by
  have e1 : (l ++ s.data.toList).length = l.length + s.size := by rw [List.length_append, size_list]
  have e2 : cells (l ++ s.data.toList) = cells l ++ Lib.strCells s := by simp [cells, Lib.strCells]
  unfold Own
  rw [e1, e2]
  exact h
theorem own_one {B : Nat} {v : Value} {l : List UInt8} {c : UInt8} {w : World} (h : w.ownsRow B 5 1 v (l.length + 1) (cells l ++ [.int .u8 (c.toNat : Int)])) : Own B v (l ++ [c]) w := by
  have e1 : (l ++ [c]).length = l.length + 1 := by simp
  have e2 : cells (l ++ [c]) = cells l ++ [.int .u8 (c.toNat : Int)] := by simp [cells]
  unfold Own
  rw [e1, e2]
  exact h
theorem own_at {B : Nat} {v : Value} {l : List UInt8} {w : World} (h : Own B v l w) (h0 : l ≠ []) : ∃ g cap, v = .slice (some ⟨g, 0, none⟩) l.length cap ∧ l.length ≤ cap ∧ At w g 0 l := by
  obtain ⟨_, ⟨_, h2⟩ | ⟨g, cap, cur, h1, _, h3, h4, _, _, h5⟩⟩ := h
  · exact absurd (List.eq_nil_of_length_eq_zero h2) h0
  · refine ⟨g, cap, h1, h4, fun i hi => ?_⟩
    have e1 : (cells l)[i]? = some (.int .u8 (l[i].toNat : Int)) := by simp [cells, hi]
    rw [← h5, List.getElem?_take, if_pos (by omega), Array.getElem?_toList] at e1
    simp [World.cell?, h3, e1]
theorem drewN_below (w : World) (q : Nat) : Below w.heap.size w (w.drewN q) := ⟨rfl, rfl, rfl, Nat.le_refl _, fun _ _ => rfl⟩
theorem eq_yes (v : Value) (s : ByteArray) (w : World) (hs : s.size ≤ 9000000000) (h : Sl w v s.data.toList) :
    Calls Tryd.prog 19 #[v, .string s] w fun e w' => e = .returned (.bool true) ∧ Below w.heap.size w w' := by
  refine (equal_yes v s w hs h).mono ?_
  rintro e w' ⟨rfl, q, rfl⟩
  exact ⟨rfl, drewN_below w q⟩
theorem pad_len (p : Bool) : (pad p).length ≤ 2 := by cases p <;> decide
theorem pad_blank (p : Bool) : ∀ x ∈ pad p, blank x = true := by cases p <;> decide
theorem pad_ten (p : Bool) : ∀ x ∈ pad p, x ≠ 10 := by cases p <;> decide
theorem not_pad {p : Bool} {s : UInt8} (hs : blank s = false) : ∀ x ∈ pad p, x ≠ s := fun x hx e => by
  have := pad_blank p x hx
  rw [e, hs] at this
  cases this
theorem ten_not {s : UInt8} (hs : blank s = false) : s ≠ 10 := fun e => by rw [e] at hs; revert hs; decide
theorem line_ten {p : Bool} {K V : List UInt8} {s : UInt8} (hs : blank s = false) (hK : ∀ x ∈ K, x ≠ 10) (hV : ∀ x ∈ V, x ≠ 10) : ∀ x ∈ lineOf (pad p) K V s, x ≠ 10 := by
  intro x hx
  simp only [lineOf, List.mem_append, List.mem_cons] at hx
  rcases hx with h | h | h | h | h | h | h
  · exact pad_ten p x h
  · exact hK x h
  · exact pad_ten p x h
  · rw [h]; exact ten_not hs
  · exact pad_ten p x h
  · exact hV x h
  · exact pad_ten p x h
theorem before_sep {p : Bool} {K : List UInt8} {s : UInt8} (hs : blank s = false) (hK : ∀ x ∈ K, x ≠ s) : ∀ x ∈ before (pad p) K, x ≠ s := by
  intro x hx
  unfold before at hx
  split at hx
  · cases hx
  · exact (List.mem_append.1 hx).elim (hK x) (not_pad hs x)
theorem line_len (p : Bool) (K V : List UInt8) (s : UInt8) : (lineOf (pad p) K V s).length ≤ K.length + V.length + 9 := by
  have := pad_len p
  simp only [lineOf, List.length_append, List.length_cons]
  omega
theorem bytes_all {k : ByteArray} {Q : UInt8 → Prop} (h : ∀ j (hj : j < k.size), Q k[j]) : ∀ x ∈ k.data.toList, Q x := by
  intro x hx
  obtain ⟨i, hi, rfl⟩ := List.mem_iff_getElem.1 hx
  exact h i (by rw [size_list]; exact hi)
/-- The whole line, cut. -/
theorem cut_line (B : Nat) (dv : Value) (p : Bool) (K V R : List UInt8) (s : UInt8) (w : World) (hO : Own B dv (lineOf (pad p) K V s ++ 10 :: R) w) (hK : Edges K) (hV : Edges V) (hs : blank s = false)
    (hK10 : ∀ x ∈ K, x ≠ 10) (hV10 : ∀ x ∈ V, x ≠ 10) (hKs : ∀ x ∈ K, x ≠ s) (hk : K.length ≤ 262144) (hv : V.length ≤ 262144) (hr : R.length ≤ 262144) (hT : Tabs w) :
    Calls Tryd.prog 12 #[dv, .int .u8 (s.toNat : Int)] w fun e w' => Three w K V R e w' := by
  obtain ⟨g, cap, rfl, hcap, hAt⟩ := own_at hO (by simp)
  have hl := line_len p K V s
  have e1 : (lineOf (pad p) K V s ++ 10 :: R).length = (lineOf (pad p) K V s).length + (R.length + 1) := by simp
  rw [e1] at hcap ⊢
  exact cutZ_any _ s K V R w (cutField_any g 0 cap (pad p) K V R _ s w rfl hAt (pad_blank p) hK hV hs (line_ten hs hK10 hV10) (before_sep hs hKs) hcap (by omega) hT)
end Go.Proofs.Qxb6602280aDoor
