/-
  From a row's condition to FormatInt's table.
-/
import Derived.Test.Qxb6602256aDoorRowKit
import Derived.Test.Qxb6602256aDoorWalksS
import Derived.Lib.LaidTab
namespace Go.Proofs.Qxb6602256aDoor
open Go.RowKit Go.ChangeShapes Go.WideShapes Go.ChangeAt

theorem tPow : (Tryd.prog.globals[5]?).map (·.type) = some 116 := by kernel_rfl
theorem laidPow : (Rows.laid_internal_strconv_uint64pow10 : DataW Unit) = Lib.tabData .u64 Lib.pow10Tab := by rfl
theorem pow_of {W : World} {l : List (String × DataW Unit)} {nm : String} (hL : laidMet Tryd.prog l W) (hm : (nm, Rows.laid_internal_strconv_uint64pow10) ∈ l) (hg : Tryd.prog.globalNamed nm = some 5) : Pow W := by
  obtain ⟨g, t, cs, fuel, p, hg', ht, hv, hd⟩ := Lib.laidMet.reads hL hm
  obtain rfl := Option.some.inj (hg.symm.trans hg')
  obtain rfl := Option.some.inj (tPow.symm.trans ht)
  rw [laidPow] at hd
  have := Lib.cells_of_tab Tryd.underlying116 Tryd.underlying26 (by kernel_rfl) (by kernel_rfl) hd
  refine Pow.of_tab (nm := nm) ?_ hg
  unfold Lib.TabIs
  rw [hv, ← this]
end Go.Proofs.Qxb6602256aDoor
