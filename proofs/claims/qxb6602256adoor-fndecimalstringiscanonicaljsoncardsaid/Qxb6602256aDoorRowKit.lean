/-
  From a row's condition to what the walks ask of the library's variables; the wrap that keeps both the condition and the world's shape.
-/
import Derived.Test.Qxb6602256aDoorWalksR
import Derived.Test.Qxb6602256aDoorTie
import Derived.Test.Qxb6602256aDoorCards
import Derived.ProofKit
import Derived.Lay
import Derived.SevenTiedAt
import Derived.Shelf.Vars
import Derived.Lib.LaidU8
import Derived.LaidLaws
namespace Go.Proofs.Qxb6602256aDoor
open Go.RowKit Go.ChangeShapes Go.WideShapes Go.ChangeAt

theorem own : ownKnob Tryd.prog.godebug = none := by kernel_rfl

/-- The wrap with a condition X of the world AND the world's shape handed to the contract. -/
theorem returns_and_shaped {H : Type} {enc : TypeId × Value → H} {a : Assume} {C : Checked} {os : Os} {f : FuncId} {fn : Func} {s : ChangeSpec} {conds : List PathCond} {apart fresh handsOn again : Bool} {X : World → Array Value → Prop}
    (hX : ∀ (w w' : World) (args : Array Value), w.heap = w'.heap → X w args → X w' args)
    (own : ownKnob C.prog.godebug = none) (started : os.Started) (noInit : C.prog.inits.idxOf? f = none) (hfn : C.prog.funcs[f]? = some fn)
    (witness : ∃ (w : World) (tape : Tape) (i : Input), w.os = os ∧ (w.forCall tape i).Shaped C.prog ∧ i.vars = [] ∧ Input.okWide C.prog (w.forCall tape i) .any w.heap.size f i ∧
      ((s.pre enc C.prog fn conds apart (w.forCall tape i).memory i.args ∧ X (w.forCall tape i).memory i.args) ∧ sizedMet enc C.prog fn (OpenSpec.ofChange s) apart (w.forCall tape i).memory i.args) ∧ a.holds C.prog (lone (Frame.enter C.prog f i.args .normal) [] (w.forCall tape i)))
    (contract : ∀ (W : World) (base : Nat) (args : Array Value) (ds gs : List (DataW H)) (before : List MemPlace),
      (∀ (j : Nat) t v, fn.params[j]? = some t → args[j]? = some v → Value.okWide C.prog W .any base t v) →
      DataW.Whole enc C.prog fn.params.toList s.vars apart W args.toList ds gs before → X W args → W.ShapedOpen C.prog →
      Calls C.prog f args W fun e W' => ∃ v, e = .returned v ∧ s.post enc C.prog fn apart fresh handsOn again W args v W') :
    ReturnsInHanded a C os f .any (fun w args => (s.pre enc C.prog fn conds apart w args ∧ X w args) ∧ sizedMet enc C.prog fn (OpenSpec.ofChange s) apart w args) (s.post enc C.prog fn apart fresh handsOn again) := by
  refine returnsInHanded_of_calls own started noInit witness ?_
  intro w tape i _ hsh _ hok hpre _
  obtain ⟨_, _, _, fn', hfn', _, _, _, _, hval⟩ := hok
  have e : fn' = fn := Option.some.inj (hfn'.symm.trans hfn)
  subst e
  obtain ⟨⟨⟨ds, gs, before, hw, hc⟩, hx⟩, hz⟩ := hpre
  have hw' := DataW.Whole.of_heap (w' := w.forCall tape i) (by rfl) hw
  refine (contract (w.forCall tape i) w.heap.size i.args ds gs before hval hw' (hX _ _ _ (by rfl) hx) hsh).mono fun e W' ⟨v, he, hp⟩ => ?_
  subst he
  exact ChangeSpec.post_blind hp

theorem gErr : Tryd.prog.globalNamed "strconv.ErrRange" = some 2 := by kernel_rfl
theorem tErr : (Tryd.prog.globals[2]?).map (·.type) = some 49 := by kernel_rfl
theorem vars_of {W : World} {l : List (String × DataW Unit)} (hL : laidMet Tryd.prog l W) (hm : ("strconv.ErrRange", Rows.laid_strconv_ErrRange) ∈ l) (hsh : W.ShapedOpen Tryd.prog) : Vars W := by
  refine ⟨?_, ?_⟩
  · exact cell_of_shapedOpen_int (g := 0) (t := 3) (zero := #[.int .i64 0]) hsh (of_decide_eq_true (by kernel_rfl)) (by kernel_rfl) rfl (by kernel_rfl) (by kernel_rfl) Tryd.underlying3
  · obtain ⟨g, t, cs, fuel, p, hg, ht, hv, hd⟩ := Lib.laidMet.reads hL hm
    obtain rfl := Option.some.inj (gErr.symm.trans hg)
    obtain rfl := Option.some.inj (tErr.symm.trans ht)
    obtain ⟨_, u, v, hc, _⟩ := iface_of_trod Tryd.underlying49 hd
    refine ⟨u, v, ?_⟩
    have := World.var?_cell hg hv 0
    rw [Array.eq_one_of_toList hc] at this
    simpa using this
end Go.Proofs.Qxb6602256aDoor
