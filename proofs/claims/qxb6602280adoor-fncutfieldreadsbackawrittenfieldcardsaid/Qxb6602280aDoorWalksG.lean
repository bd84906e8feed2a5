/-
  bytes.Cut by one byte.
-/
import Derived.Test.Qxb6602280aDoorWalksF
import Derived.Lib.IndexMore
import Derived.Lib.Bytes
namespace Go.Proofs.Qxb6602280aDoor
open Go.RowKit

theorem index_skip {a b : List UInt8} {c : UInt8} (h : ∀ x ∈ a, x ≠ c) : Lib.index (a ++ c :: b) [c] = (a.length : Int) := by
  induction a with
  | nil => unfold Lib.index; simp [List.isPrefixOf]
  | cons x a ih =>
    have hx := h x (List.mem_cons_self ..)
    have ih := ih (fun c hc => h c (List.mem_cons_of_mem _ hc))
    rw [List.cons_append]
    unfold Lib.index
    rw [if_neg (by simp [List.isPrefixOf]; exact fun e => hx e.symm), ih, if_neg (by simp)]
    simp
/-- The numbers of a list of bytes. -/
def numsL (l : List UInt8) : List Int := l.map fun x => (x.toNat : Int)
theorem bytesOf_numsL (l : List UInt8) : Lib.bytesOf (numsL l) = l := by
  unfold Lib.bytesOf numsL
  rw [List.map_map]
  conv => rhs; rw [← List.map_id l]
  apply List.map_congr_left
  intro x _
  simp
theorem in_of_at {w : World} {b o : Nat} {l : List UInt8} (h : At w b o l) : Lib.BytesIn w (some ⟨b, o, none⟩) l.length (numsL l) := fun _ => ⟨b, o, rfl, fun i hi => by
  rw [h i hi]
  simp [numsL, List.getD, hi]⟩
theorem cut_one (b o c b2 o2 c2 : Nat) (X Z : List UInt8) (y : UInt8) (w : World) (hA : At w b o (X ++ y :: Z)) (hy : w.cell? ⟨b2, o2, none⟩ = some (.int .u8 (y.toNat : Int))) (hX : ∀ x ∈ X, x ≠ y)
    (hnc : X.length + (Z.length + 1) ≤ c) (hc : X.length + (Z.length + 1) < 4000000000) (hT : Tabs w) :
    Calls Tryd.prog 27 #[.slice (some ⟨b, o, none⟩) (X.length + (Z.length + 1)) c, .slice (some ⟨b2, o2, none⟩) 1 c2] w fun e w' =>
      e = .returned (.tuple #[.slice (some ⟨b, o, none⟩) X.length c, Lib.fromV (some ⟨b, o, none⟩) (X.length + (Z.length + 1)) c (X.length + 1), .bool true]) ∧ Below w.heap.size w w' := by
  obtain ⟨m, hm⟩ := hT.mx
  have hl : (X ++ y :: Z).length = X.length + (Z.length + 1) := by simp
  have h1 := in_of_at hA
  have h2 : Lib.BytesIn w (some ⟨b2, o2, none⟩) [y].length (numsL [y]) := in_of_at (fun i hi => by
    have : i = 0 := by simpa using hi
    subst this
    exact hy)
  have hn : ∀ (l : List UInt8), ∀ x ∈ numsL l, 0 ≤ x ∧ x < 256 := fun l x hx => by
    obtain ⟨u, _, rfl⟩ := List.mem_map.1 hx
    have := u.toNat_lt
    omega
  have := Tryd.bytes_Cut_all (some ⟨b, o, none⟩) (some ⟨b2, o2, none⟩) _ c _ c2 (numsL (X ++ y :: Z)) (numsL [y]) m w (by simp [numsL]) (by simp [numsL]) (hn _) (hn _) h1 h2 (fun h => by cases h) (by omega) (by omega) (by show 1 ≤ _; decide) hm
  rw [bytesOf_numsL, bytesOf_numsL, index_skip hX, hl] at this
  refine this.mono ?_
  rintro e w' ⟨rfl, q, rfl⟩
  refine ⟨?_, ?_⟩
  · unfold Lib.cutV
    rw [if_pos (by omega)]
    simp
  · exact ⟨rfl, rfl, rfl, Nat.le_refl _, fun _ _ => rfl⟩
end Go.Proofs.Qxb6602280aDoor
