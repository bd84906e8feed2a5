/-
  utf8.decodeRuneSlow at bytes that begin no rune.
-/
import Derived.Test.Qxb6602280aDoorWalksA
import Derived.Shelf.Unicode.DecodeSlow
namespace Go.Proofs.Qxb6602280aDoor
open Go.RowKit

theorem cell_lt {w : World} {b o : Nat} {v : Value} (h : w.cell? ⟨b, o, none⟩ = some v) : b < w.heap.size := by
  rcases Nat.lt_or_ge b w.heap.size with h1 | h1
  · exact h1
  · unfold World.cell? at h
    simp [Array.getElem?_eq_none h1] at h
theorem first_hi (x : Nat) (h : 128 ≤ x) : Lib.firstT x ≠ 240 := by
  unfold Lib.firstT
  repeat' split
  all_goals omega
theorem bad_rune : ∀ z : Fin 256, bits BinOp.or IntKind.i32 (bits BinOp.andNot IntKind.i32 (z.val : Int) (wrap32 517543559168 / 2147483648)) (bits BinOp.and IntKind.i32 65533 (wrap32 517543559168 / 2147483648)) = 65533 := by decide +kernel

set_option maxRecDepth 100000 in
set_option maxHeartbeats 4000000 in
theorem slow_bad (b o n c : Nat) (z : Nat) (w : World) (hx : 128 ≤ z) (hx2 : z < 256) (hn : 1 ≤ n) (hnc : n ≤ c) (hc : n ≤ 9000000000) (h0 : w.cell? ⟨b, o, none⟩ = some (.int .u8 (z : Int)))
    (h1 : n = 1 ∨ (2 ≤ n ∧ ∃ y : Nat, y < 128 ∧ w.cell? ⟨b, o + 1, none⟩ = some (.int .u8 (y : Int)))) (hT : Lib.Utf8Tabs 5 6 w) :
    Calls Tryd.prog 69 #[.slice (some ⟨b, o, none⟩) n c] w fun e w' => e = .returned (.tuple #[.int .i32 65533, .int .i64 1]) ∧ Below w.heap.size w w' := by
  have hF := hT.1 z hx2
  have hne := first_hi z hx
  have hcs := Lib.firstT_cases z
  obtain ⟨F, hFe⟩ : ∃ F, Lib.firstT z = F := ⟨_, rfl⟩
  rw [hFe] at hF hne hcs
  have hA0 : w.cell? ⟨6, 0, none⟩ = some (.int .u8 128) ∧ w.cell? ⟨6, 1, none⟩ = some (.int .u8 191) := hT.2 0 (by decide)
  have hA1 : w.cell? ⟨6, 2, none⟩ = some (.int .u8 160) ∧ w.cell? ⟨6, 3, none⟩ = some (.int .u8 191) := hT.2 1 (by decide)
  have hA2 : w.cell? ⟨6, 4, none⟩ = some (.int .u8 128) ∧ w.cell? ⟨6, 5, none⟩ = some (.int .u8 159) := hT.2 2 (by decide)
  have hA3 : w.cell? ⟨6, 6, none⟩ = some (.int .u8 144) ∧ w.cell? ⟨6, 7, none⟩ = some (.int .u8 191) := hT.2 3 (by decide)
  have hA4 : w.cell? ⟨6, 8, none⟩ = some (.int .u8 128) ∧ w.cell? ⟨6, 9, none⟩ = some (.int .u8 143) := hT.2 4 (by decide)
  obtain ⟨a0, a1⟩ := hA0
  obtain ⟨a2, a3⟩ := hA1
  obtain ⟨a4, a5⟩ := hA2
  obtain ⟨a6, a7⟩ := hA3
  obtain ⟨a8, a9⟩ := hA4
  have HR : Hid _ := bad_rune ⟨z, hx2⟩
  have hbw : b < w.heap.size := cell_lt h0
  have hbn : ¬ b = w.heap.size := by omega
  clear hFe hT
  rcases hcs with rfl | rfl | rfl | rfl | rfl | rfl | rfl | rfl | rfl
  · exact absurd rfl hne
  · go_enter Tryd.func69, Tryd.ntmps69
    go_wp2
    refine bodyPost_ret (v := .tuple #[.int .i32 65533, .int .i64 1]) ?_ rfl ⟨rfl, Below.refl _ _⟩
    have := HR.out
    simp [results, Tryd.results69, go_sem, this]
  · clear HR hne
    rcases h1 with rfl | ⟨hn2, y, hy, h1⟩
    · go_enter Tryd.func69, Tryd.ntmps69
      go_wp2
      all_goals exact bodyPost_ret (v := .tuple #[.int .i32 65533, .int .i64 1]) (by simp [results, Tryd.results69, go_sem]) rfl ⟨rfl, (Below.refl _ _).alloc (Nat.le_refl _) _⟩
    · go_enter Tryd.func69, Tryd.ntmps69
      go_wp2
      all_goals exact bodyPost_ret (v := .tuple #[.int .i32 65533, .int .i64 1]) (by simp [results, Tryd.results69, go_sem]) rfl ⟨rfl, (Below.refl _ _).alloc (Nat.le_refl _) _⟩
  · clear HR hne
    rcases h1 with rfl | ⟨hn2, y, hy, h1⟩
    · go_enter Tryd.func69, Tryd.ntmps69
      go_wp2
      all_goals exact bodyPost_ret (v := .tuple #[.int .i32 65533, .int .i64 1]) (by simp [results, Tryd.results69, go_sem]) rfl ⟨rfl, (Below.refl _ _).alloc (Nat.le_refl _) _⟩
    · go_enter Tryd.func69, Tryd.ntmps69
      go_wp2
      all_goals exact bodyPost_ret (v := .tuple #[.int .i32 65533, .int .i64 1]) (by simp [results, Tryd.results69, go_sem]) rfl ⟨rfl, (Below.refl _ _).alloc (Nat.le_refl _) _⟩
  · clear HR hne
    rcases h1 with rfl | ⟨hn2, y, hy, h1⟩
    · go_enter Tryd.func69, Tryd.ntmps69
      go_wp2
      all_goals exact bodyPost_ret (v := .tuple #[.int .i32 65533, .int .i64 1]) (by simp [results, Tryd.results69, go_sem]) rfl ⟨rfl, (Below.refl _ _).alloc (Nat.le_refl _) _⟩
    · go_enter Tryd.func69, Tryd.ntmps69
      go_wp2
      all_goals exact bodyPost_ret (v := .tuple #[.int .i32 65533, .int .i64 1]) (by simp [results, Tryd.results69, go_sem]) rfl ⟨rfl, (Below.refl _ _).alloc (Nat.le_refl _) _⟩
  · clear HR hne
    rcases h1 with rfl | ⟨hn2, y, hy, h1⟩
    · go_enter Tryd.func69, Tryd.ntmps69
      go_wp2
      all_goals exact bodyPost_ret (v := .tuple #[.int .i32 65533, .int .i64 1]) (by simp [results, Tryd.results69, go_sem]) rfl ⟨rfl, (Below.refl _ _).alloc (Nat.le_refl _) _⟩
    · go_enter Tryd.func69, Tryd.ntmps69
      go_wp2
      all_goals exact bodyPost_ret (v := .tuple #[.int .i32 65533, .int .i64 1]) (by simp [results, Tryd.results69, go_sem]) rfl ⟨rfl, (Below.refl _ _).alloc (Nat.le_refl _) _⟩
  · clear HR hne
    rcases h1 with rfl | ⟨hn2, y, hy, h1⟩
    · go_enter Tryd.func69, Tryd.ntmps69
      go_wp2
      all_goals exact bodyPost_ret (v := .tuple #[.int .i32 65533, .int .i64 1]) (by simp [results, Tryd.results69, go_sem]) rfl ⟨rfl, (Below.refl _ _).alloc (Nat.le_refl _) _⟩
    · go_enter Tryd.func69, Tryd.ntmps69
      go_wp2
      all_goals exact bodyPost_ret (v := .tuple #[.int .i32 65533, .int .i64 1]) (by simp [results, Tryd.results69, go_sem]) rfl ⟨rfl, (Below.refl _ _).alloc (Nat.le_refl _) _⟩
  · clear HR hne
    rcases h1 with rfl | ⟨hn2, y, hy, h1⟩
    · go_enter Tryd.func69, Tryd.ntmps69
      go_wp2
      all_goals exact bodyPost_ret (v := .tuple #[.int .i32 65533, .int .i64 1]) (by simp [results, Tryd.results69, go_sem]) rfl ⟨rfl, (Below.refl _ _).alloc (Nat.le_refl _) _⟩
    · go_enter Tryd.func69, Tryd.ntmps69
      go_wp2
      all_goals exact bodyPost_ret (v := .tuple #[.int .i32 65533, .int .i64 1]) (by simp [results, Tryd.results69, go_sem]) rfl ⟨rfl, (Below.refl _ _).alloc (Nat.le_refl _) _⟩
  · clear HR hne
    rcases h1 with rfl | ⟨hn2, y, hy, h1⟩
    · go_enter Tryd.func69, Tryd.ntmps69
      go_wp2
      all_goals exact bodyPost_ret (v := .tuple #[.int .i32 65533, .int .i64 1]) (by simp [results, Tryd.results69, go_sem]) rfl ⟨rfl, (Below.refl _ _).alloc (Nat.le_refl _) _⟩
    · go_enter Tryd.func69, Tryd.ntmps69
      go_wp2
      all_goals exact bodyPost_ret (v := .tuple #[.int .i32 65533, .int .i64 1]) (by simp [results, Tryd.results69, go_sem]) rfl ⟨rfl, (Below.refl _ _).alloc (Nat.le_refl _) _⟩
end Go.Proofs.Qxb6602280aDoor
