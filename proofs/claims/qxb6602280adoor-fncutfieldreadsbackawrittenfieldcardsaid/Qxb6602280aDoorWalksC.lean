/-
  utf8.DecodeRune, DecodeLastRune; bytes.indexFunc, lastIndexFunc; bytes.TrimFunc.
-/
import Derived.Test.Qxb6602280aDoorWalksB
import Derived.Test.Qxb6602280aDoorShelfA
namespace Go.Proofs.Qxb6602280aDoor
open Go.RowKit

set_option maxRecDepth 100000 in
set_option maxHeartbeats 1000000 in
/-- A byte below 128 stands for itself. -/
theorem decode_ascii (b o n c z : Nat) (w : World) (hz : z < 128) (hn : 1 ≤ n) (h0 : w.cell? ⟨b, o, none⟩ = some (.int .u8 (z : Int))) :
    Calls Tryd.prog 61 #[.slice (some ⟨b, o, none⟩) n c] w fun e w' => e = .returned (.tuple #[.int .i32 (z : Int), .int .i64 1]) ∧ w' = w := by
  go_enter Tryd.func61, Tryd.ntmps61
  go_wp2
  go_loop [5, 8] (fun _ i => i = .int .i64 0) (fun _ _ => 0)
  case atStart => rfl
  case round =>
    obtain rfl := hrel
    go_wp2
    exact bodyPost_ret (v := .tuple #[.int .i32 (z : Int), .int .i64 1]) (by simp [results, Tryd.results61, go_sem]) rfl ⟨rfl, rfl⟩
set_option maxRecDepth 100000 in
set_option maxHeartbeats 1000000 in
theorem decode_bad (b o n c : Nat) (z : Nat) (w : World) (hx : 128 ≤ z) (hx2 : z < 256) (hn : 1 ≤ n) (hnc : n ≤ c) (hc : n ≤ 9000000000) (h0 : w.cell? ⟨b, o, none⟩ = some (.int .u8 (z : Int)))
    (h1 : n = 1 ∨ (2 ≤ n ∧ ∃ y : Nat, y < 128 ∧ w.cell? ⟨b, o + 1, none⟩ = some (.int .u8 (y : Int)))) (hT : Lib.Utf8Tabs 5 6 w) :
    Calls Tryd.prog 61 #[.slice (some ⟨b, o, none⟩) n c] w fun e w' => e = .returned (.tuple #[.int .i32 65533, .int .i64 1]) ∧ Below w.heap.size w w' := by
  have hS := slow_bad b o n c z w hx hx2 hn hnc hc h0 h1 hT
  have hz : ¬ z < 128 := by omega
  clear h1 hT
  go_enter Tryd.func61, Tryd.ntmps61
  go_wp2
  go_loop [5, 8] (fun _ i => i = .int .i64 0) (fun _ _ => 0)
  case atStart => rfl
  case round =>
    obtain rfl := hrel
    go_wp2_with (go_at_call 69; refine hS.mono ?_; rintro e w1 ⟨rfl, hb⟩)
    exact bodyPost_ret (v := .tuple #[.int .i32 65533, .int .i64 1]) (by simp [results, Tryd.results61, go_sem]) rfl ⟨rfl, hb⟩

/-- What the library's functions read of its variables. -/
structure Tabs (w : World) : Prop where
  u8 : Lib.Utf8Tabs 5 6 w
  wh : Lib.WhiteTab 2 w
  sp : ∀ c : UInt8, w.cell? ⟨0, c.toNat, none⟩ = some (.int .u8 (if blank c = true then 1 else 0))
  mx : ∃ m : Int, w.cell? ⟨1, 0, none⟩ = some (.int .i64 m)
theorem cell_below {w w' : World} {b o : Nat} {v : Value} (h : w.cell? ⟨b, o, none⟩ = some v) (hb : Below w.heap.size w w') : w'.cell? ⟨b, o, none⟩ = some v := by
  rw [hb.cell (p := ⟨b, o, none⟩) (cell_lt h)]; exact h
theorem Tabs.below {w w' : World} (h : Tabs w) (hb : Below w.heap.size w w') : Tabs w' := by
  refine ⟨⟨fun c hc => cell_below (h.u8.1 c hc) hb, fun i hi => ⟨cell_below (h.u8.2 i hi).1 hb, cell_below (h.u8.2 i hi).2 hb⟩⟩, ?_, fun c => cell_below (h.sp c) hb, ?_⟩
  · obtain ⟨T, oT, R, oR, h1, h2, h3, h4, h5⟩ := h.wh
    exact ⟨T, oT, R, oR, cell_below h1 hb, cell_below h2 hb, cell_below h3 hb, cell_below h4 hb, fun i hi => cell_below (h5 i hi) hb⟩
  · obtain ⟨m, h1⟩ := h.mx
    exact ⟨m, cell_below h1 hb⟩
theorem space_any (r : Int) (w : World) (h0 : -2147483648 ≤ r) (h1 : r ≤ 2147483647) (hT : Tabs w) :
    Calls Tryd.prog 35 #[.int .i32 r] w fun e w' => e = .returned (.bool (Lib.isSpaceZ r)) ∧ Below w.heap.size w w' := Tryd.unicode_IsSpace_any r w h0 h1 hT.wh

set_option maxRecDepth 100000 in
set_option maxHeartbeats 1000000 in
/-- The first rune is no space: the index is 0. -/
theorem index_zero (b o n c : Nat) (r : Int) (w : World) (hn : 1 ≤ n) (hnc : n ≤ c) (hc : n ≤ 9000000000) (h0 : -2147483648 ≤ r) (h1 : r ≤ 2147483647) (hr : Lib.isSpaceZ r = false) (hT : Tabs w)
    (hD : Calls Tryd.prog 61 #[.slice (some ⟨b, o, none⟩) n c] w fun e w' => e = .returned (.tuple #[.int .i32 r, .int .i64 1]) ∧ Below w.heap.size w w') :
    Calls Tryd.prog 62 #[.slice (some ⟨b, o, none⟩) n c, .func (.func 35) #[] #[], .bool false] w fun e w' => e = .returned (.int .i64 0) ∧ Below w.heap.size w w' := by
  go_enter Tryd.func62, Tryd.ntmps62
  go_wp2
  go_loopw [7, 8, 9] (fun i _ _ wr => i = .int .i64 0 ∧ wr = w) (fun _ _ _ _ => 0)
  case atStart => exact ⟨rfl, rfl⟩
  case round =>
    obtain ⟨rfl, rfl⟩ := hrel
    go_wp2_with (first
      | (go_at_call 61; refine hD.mono ?_; rintro e w1 ⟨rfl, hb1⟩; have hT1 := hT.below hb1)
      | (go_at_call 35; refine (space_any r _ h0 h1 hT1).mono ?_; rintro e w2 ⟨rfl, hb2⟩; rw [hr]))
    go_ret
    exact ⟨rfl, below_then hb1 hb2⟩
end Go.Proofs.Qxb6602280aDoor
