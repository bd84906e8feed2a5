/-
  appendPad on a row of the call's own.
-/
import Derived.Test.Qxb6602280aDoorWalksI
import Derived.Laws.AppendOwn
import Derived.Lib.AppendStr
import Derived.OwnWalk
namespace Go.Proofs.Qxb6602280aDoor
open Go.RowKit

def cells (l : List UInt8) : List Value := l.map fun c => Value.int .u8 (c.toNat : Int)
theorem cells_len (l : List UInt8) : (cells l).length = l.length := by simp [cells]
theorem Tryd.info5 : (Tryd.prog.info? 5).map (fun i => (i.zero, i.size, i.bytes)) = some (some (.int .u8 0), 1, 1) := by kernel_rfl
theorem info5 : ∃ i, Tryd.prog.info? 5 = some i ∧ i.zero = some (.int .u8 0) ∧ i.size = 1 ∧ i.bytes = 1 := by
  have := Tryd.info5
  cases h : Tryd.prog.info? 5 with
  | none => rw [h] at this; cases this
  | some i =>
    rw [h] at this
    simp at this
    exact ⟨i, rfl, this.1, this.2.1, this.2.2⟩
/-- The slice v is a row of the call's own (from block B on) that holds the bytes l. -/
def Own (B : Nat) (v : Value) (l : List UInt8) (w : World) : Prop := w.ownsRow B 5 1 v l.length (cells l)
def pad (p : Bool) : List UInt8 := if p = true then [32, 9] else []
/-- A row grown by some bytes. -/
def Grown (B : Nat) (l : List UInt8) (w : World) (e : Ending) (w' : World) : Prop := ∃ v, e = .returned v ∧ Own B v l w' ∧ Below B w w'
theorem own_block {B : Nat} {v : Value} {l : List UInt8} {w : World} (h : Own B v l w) : ∀ k, v.ownBlock = some k → B ≤ k := by
  intro k hk
  obtain ⟨_, ⟨h1, _⟩ | ⟨g, cap, cur, h1, h2, _⟩⟩ := h
  · rw [h1] at hk; cases hk
  · rw [h1] at hk
    simp [Value.ownBlock] at hk
    omega
theorem news_two (w : World) (x y : Value) (t : TypeId) : ∀ j u, [x, y][j]? = some u → (w.alloc (.cells #[x, y] t)).cell? ((⟨w.heap.size, 0, none⟩ : Addr).add j) = some u := by
  intro j u hj
  match j, hj with
  | 0, hj =>
    simp at hj
    subst hj
    simp [Addr.add]
  | 1, hj =>
    simp at hj
    subst hj
    simp [Addr.add]
theorem two_u8 (z y : Int) : ∀ u ∈ [Value.int .u8 z, Value.int .u8 y], u.oneCell' = true := fun u hu => by
  simp at hu
  rcases hu with rfl | rfl <;> rfl
set_option maxRecDepth 100000 in
set_option maxHeartbeats 1000000 in
theorem pad_any (B : Nat) (v : Value) (l : List UInt8) (p : Bool) (w : World) (h : Own B v l w) (hB : B ≤ w.heap.size) (hl : l.length ≤ 100000000) :
    Calls Tryd.prog 18 #[v, .bool p] w fun e w' => Grown B (l ++ pad p) w e w' := by
  obtain ⟨i0, hi, hz0, hz1, hz2⟩ := info5
  cases p with
  | false =>
    go_enter Tryd.func18, Tryd.ntmps18
    go_wp2
    go_ret
    exact ⟨v, rfl, by simpa [pad] using h, Below.refl _ _⟩
  | true =>
    go_enter Tryd.func18, Tryd.ntmps18
    go_wp2_with (at_builtin; refine wpList_append_own _ rfl _ _ 23 rfl B 5 i0 (.int .u8 0) 1 1 Tryd.underlying23 hi hz0 hz1 hz2 rfl (by decide) _ _ _ rfl (h.alloc _) ⟨w.heap.size, 0, none⟩ 2 2 [.int .u8 32, .int .u8 9] rfl rfl (by exact news_two _ _ _ _) (by exact two_u8 _ _) (by unfold maxLen; omega) (by omega) (by simp; omega) ?_; intro v' w1 hown1 hgrow _)
    go_ret
    refine ⟨v', rfl, ?_, ?_⟩
    · have e1 : (l ++ pad true).length = l.length + 2 := by simp [pad]
      have e2 : cells (l ++ pad true) = cells l ++ [.int .u8 32, .int .u8 9] := by simp [cells, pad]
      unfold Own
      rw [e1, e2]
      exact hown1
    · exact ((Below.refl B w).alloc hB _).grown hgrow (by simp; omega) (own_block h)
end Go.Proofs.Qxb6602280aDoor
