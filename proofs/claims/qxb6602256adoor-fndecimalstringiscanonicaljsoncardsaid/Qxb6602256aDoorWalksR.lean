/-
  ZZParseDecimal: the decimal's four fields.
-/
import Derived.Test.Qxb6602256aDoorWalksP
namespace Go.Proofs.Qxb6602256aDoor
open Go.RowKit

/-- What the library's functions read of its variables. -/
structure Vars (w : World) : Prop where
  maxLen : ∃ mx : Int, w.cell? ⟨0, 0, none⟩ = some (.int .i64 mx)
  errRange : ∃ te pe, w.cell? ⟨2, 0, none⟩ = some (.iface te pe)
theorem Vars.below {w w' : World} (h : Vars w) (hb : Below w.heap.size w w') : Vars w' := by
  obtain ⟨mx, h1⟩ := h.maxLen
  obtain ⟨te, pe, h2⟩ := h.errRange
  exact ⟨⟨mx, by rw [hb.cell (p := ⟨0, 0, none⟩) (cell_lt h1)]; exact h1⟩, ⟨te, pe, by rw [hb.cell (p := ⟨2, 0, none⟩) (cell_lt h2)]; exact h2⟩⟩
def tup (d : Pl.Dec) : Value := .tuple #[.bool d.neg, .string ⟨d.digits.toArray⟩, .int .i64 d.exp, .string ⟨d.far.toArray⟩]

set_option maxRecDepth 100000 in
set_option maxHeartbeats 1000000 in
theorem parseZ_any (s : ByteArray) (n : Pl.Num) (hn : n.Ok) (hl : s.data.toList = n.text) (w : World) (hs : s.size ≤ 2000000) (hV : Vars w) :
    Calls Tryd.prog 18 #[.string s] w fun e w' => e = .returned (tup n.dec) ∧ Below w.heap.size w w' := by
  obtain ⟨mx, h1⟩ := hV.maxLen
  obtain ⟨te, pe, h2⟩ := hV.errRange
  have hp := parse_any s n hn hl w hs mx h1 _ h2 (Or.inr ⟨te, pe, rfl⟩)
  clear h1 h2 hV
  unfold tup
  obtain ⟨a, ha⟩ : ∃ a, n.dec.neg = a := ⟨_, rfl⟩
  obtain ⟨b, hb⟩ : ∃ b, n.dec.digits = b := ⟨_, rfl⟩
  obtain ⟨c, hc⟩ : ∃ c, n.dec.exp = c := ⟨_, rfl⟩
  obtain ⟨d, hd⟩ : ∃ d, n.dec.far = d := ⟨_, rfl⟩
  rw [ha, hb, hc, hd] at hp ⊢
  clear ha hb hc hd hl
  go_enter Tryd.func18, Tryd.ntmps18
  go_wp2_with (go_at_call 33; refine hp.mono ?_; rintro e w1 ⟨rfl, hb1⟩; clear hp)
  go_region
  go_wp2_with fail
  refine bodyPost_ret (v := .tuple #[.bool a, .string ⟨b.toArray⟩, .int .i64 c, .string ⟨d.toArray⟩]) (by simp [results, Tryd.results18, go_sem]) rfl ⟨rfl, ?_⟩
  exact (hb1.alloc hb1.size _).drew
end Go.Proofs.Qxb6602256aDoor
