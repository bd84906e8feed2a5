/-
  From the row's condition to what the walks ask of the library's variables; the wrap that keeps both the condition and the world's shape.
-/
import Derived.Test.Qxb6602280aDoorWalksC
import Derived.Test.Qxb6602280aDoorTie
import Derived.Test.Qxb6602280aDoorCards
import Derived.ProofKit
import Derived.Lay
import Derived.SevenTiedAt
import Derived.Shelf.Vars
import Derived.Lib.LaidU8
import Derived.LaidLaws
import Derived.Carry
namespace Go.Proofs.Qxb6602280aDoor
open Go.RowKit Go.ChangeShapes Go.WideShapes Go.ChangeAt

theorem own : ownKnob Tryd.prog.godebug = none := by kernel_rfl

/-- The wrap with a condition X of the world AND the world's shape handed to the contract. -/
theorem returns_and_shaped {H : Type} {enc : TypeId × Value → H} {a : Assume} {C : Checked} {os : Os} {f : FuncId} {fn : Func} {s : ChangeSpec} {conds : List PathCond} {apart fresh handsOn again : Bool} {X : World → Array Value → Prop}
    (hX : ∀ (w w' : World) (args : Array Value), w.heap = w'.heap → X w args → X w' args)
    (own : ownKnob C.prog.godebug = none) (started : os.Started) (noInit : C.prog.inits.idxOf? f = none) (hfn : C.prog.funcs[f]? = some fn)
    (witness : ∃ (w : World) (tape : Tape) (i : Input), w.os = os ∧ (w.forCall tape i).Shaped C.prog ∧ i.vars = [] ∧ Input.okWide C.prog (w.forCall tape i) .any w.heap.size f i ∧
      ((s.pre enc C.prog fn conds apart (w.forCall tape i).memory i.args ∧ X (w.forCall tape i).memory i.args) ∧ sizedMet enc C.prog fn (OpenSpec.ofChange s) apart (w.forCall tape i).memory i.args) ∧ a.holds C.prog (lone (Frame.enter C.prog f i.args .normal) [] (w.forCall tape i)))
    (contract : ∀ (W : World) (base : Nat) (args : Array Value) (ds gs : List (DataW H)) (before : List MemPlace),
      (∀ (j : Nat) t v, fn.params[j]? = some t → args[j]? = some v → Value.okWide C.prog W .any base t v) →
      DataW.Whole enc C.prog fn.params.toList s.vars apart W args.toList ds gs before → X W args → W.ShapedOpen C.prog →
      Calls C.prog f args W fun e W' => ∃ v, e = .returned v ∧ s.post enc C.prog fn apart fresh handsOn again W args v W') :
    ReturnsInHanded a C os f .any (fun w args => (s.pre enc C.prog fn conds apart w args ∧ X w args) ∧ sizedMet enc C.prog fn (OpenSpec.ofChange s) apart w args) (s.post enc C.prog fn apart fresh handsOn again) := by
  refine returnsInHanded_of_calls own started noInit witness ?_
  intro w tape i _ hsh _ hok hpre _
  obtain ⟨_, _, _, fn', hfn', _, _, _, _, hval⟩ := hok
  have e : fn' = fn := Option.some.inj (hfn'.symm.trans hfn)
  subst e
  obtain ⟨⟨⟨ds, gs, before, hw, hc⟩, hx⟩, hz⟩ := hpre
  have hw' := DataW.Whole.of_heap (w' := w.forCall tape i) (by rfl) hw
  refine (contract (w.forCall tape i) w.heap.size i.args ds gs before hval hw' (hX _ _ _ (by rfl) hx) hsh).mono fun e W' ⟨v, he, hp⟩ => ?_
  subst he
  exact ChangeSpec.post_blind hp

theorem five {H : Type} {enc : TypeId × Value → H} {P : Program} {w : World} {base : Nat} {spare : Nat → Bool} {held : Bool} {t0 t1 t2 t3 t4 : TypeId} {args : Array Value} {ds : List (DataW H)} {ps : List MemPlace} (h : DataW.TrodAll enc P w base spare held [t0, t1, t2, t3, t4] args.toList ds ps) :
    ∃ v0 v1 v2 v3 v4 d0 d1 d2 d3 d4 p0 p1 p2 p3 p4, args = #[v0, v1, v2, v3, v4] ∧ ds = [d0, d1, d2, d3, d4] ∧ ps = p0 ++ (p1 ++ (p2 ++ (p3 ++ p4))) ∧ DataW.Trod enc P w base spare held t0 v0 d0 p0 ∧ DataW.Trod enc P w base spare held t1 v1 d1 p1 ∧ DataW.Trod enc P w base spare held t2 v2 d2 p2 ∧ DataW.Trod enc P w base spare held t3 v3 d3 p3 ∧ DataW.Trod enc P w base spare held t4 v4 d4 p4 := by
  obtain ⟨v0, vs0, d0, ds0, p0, q0, hargs, rfl, rfl, h0, r0⟩ := trodAll_cons h
  obtain ⟨v1, vs1, d1, ds1, p1, q1, rfl, rfl, rfl, h1, r1⟩ := trodAll_cons r0
  obtain ⟨v2, vs2, d2, ds2, p2, q2, rfl, rfl, rfl, h2, r2⟩ := trodAll_cons r1
  obtain ⟨v3, vs3, d3, ds3, p3, q3, rfl, rfl, rfl, h3, r3⟩ := trodAll_cons r2
  obtain ⟨v4, vs4, d4, ds4, p4, q4, rfl, rfl, rfl, h4, r4⟩ := trodAll_cons r3
  obtain ⟨rfl, rfl, rfl⟩ := trodAll_nil r4
  exact ⟨v0, v1, v2, v3, v4, d0, d1, d2, d3, d4, p0, p1, p2, p3, p4, by cases args; simp_all, rfl, by simp, h0, h1, h2, h3, h4⟩
theorem mk_five {H : Type} {enc : TypeId × Value → H} {P : Program} {w : World} {base : Nat} {spare : Nat → Bool} {held : Bool} {t0 t1 t2 t3 t4 : TypeId} {v0 v1 v2 v3 v4 : Value} {d0 d1 d2 d3 d4 : DataW H} {p0 p1 p2 p3 p4 : List MemPlace}
    (h0 : DataW.Trod enc P w base spare held t0 v0 d0 p0) (h1 : DataW.Trod enc P w base spare held t1 v1 d1 p1) (h2 : DataW.Trod enc P w base spare held t2 v2 d2 p2) (h3 : DataW.Trod enc P w base spare held t3 v3 d3 p3) (h4 : DataW.Trod enc P w base spare held t4 v4 d4 p4) :
    DataW.TrodAll enc P w base spare held [t0, t1, t2, t3, t4] [v0, v1, v2, v3, v4] [d0, d1, d2, d3, d4] (p0 ++ (p1 ++ (p2 ++ (p3 ++ p4)))) := ⟨p0, _, h0, trodAll_mk4 h1 h2 h3 h4, rfl⟩

theorem tSpc : (Tryd.prog.globals[0]?).map (·.type) = some 55 := by kernel_rfl
theorem tFst : (Tryd.prog.globals[5]?).map (·.type) = some 55 := by kernel_rfl
theorem tAcc : (Tryd.prog.globals[6]?).map (·.type) = some 99 := by kernel_rfl
def spTab : List Int := (List.range 256).map fun c => if blank (UInt8.ofNat c) = true then 1 else 0
theorem laidFst : Rows.laid_unicode_utf8_first = Lib.firstData := by kernel_rfl
theorem laidAcc : (Rows.laid_unicode_utf8_acceptRanges : DataW Unit) = Lib.acceptData := by kernel_rfl
theorem laidWh : (Rows.laid_unicode_White_Space : DataW Unit) = Lib.whiteData := by kernel_rfl
theorem laidSp : (Rows.laid_bytes_asciiSpace : DataW Unit) = Lib.tabData .u8 spTab := by kernel_rfl

theorem first_of {W : World} {l : List (String × DataW Unit)} {nm : String} (hL : laidMet Tryd.prog l W) (hm : (nm, Rows.laid_unicode_utf8_first) ∈ l) (hn : Tryd.prog.globalNamed nm = some 5) : ∀ c, c < 256 → W.cell? ⟨5, c, none⟩ = some (.int .u8 (Lib.firstT c)) := by
  intro c hc
  obtain ⟨g, t, cs, fuel, p, hg, ht, hv, hd⟩ := Lib.laidMet.reads hL hm
  obtain rfl := Option.some.inj (hn.symm.trans hg)
  obtain rfl := Option.some.inj (tFst.symm.trans ht)
  rw [laidFst] at hd
  have hcs := Lib.cells_of_tab Tryd.underlying55 Tryd.underlying5 (by kernel_rfl) (by kernel_rfl) hd
  rw [World.var?_cell hg hv c, ← Array.getElem?_toList, hcs]
  simp [Lib.firstTab, hc]
theorem space_of {W : World} {l : List (String × DataW Unit)} {nm : String} (hL : laidMet Tryd.prog l W) (hm : (nm, Rows.laid_bytes_asciiSpace) ∈ l) (hn : Tryd.prog.globalNamed nm = some 0) : ∀ c : UInt8, W.cell? ⟨0, c.toNat, none⟩ = some (.int .u8 (if blank c = true then 1 else 0)) := by
  intro c
  obtain ⟨g, t, cs, fuel, p, hg, ht, hv, hd⟩ := Lib.laidMet.reads hL hm
  obtain rfl := Option.some.inj (hn.symm.trans hg)
  obtain rfl := Option.some.inj (tSpc.symm.trans ht)
  rw [laidSp] at hd
  have hcs := Lib.cells_of_tab Tryd.underlying55 Tryd.underlying5 (by kernel_rfl) (by kernel_rfl) hd
  rw [World.var?_cell hg hv c.toNat, ← Array.getElem?_toList, hcs]
  have hc : c.toNat < 256 := c.toNat_lt
  simp [spTab, hc]
theorem accept_of {W : World} {l : List (String × DataW Unit)} {nm : String} (hL : laidMet Tryd.prog l W) (hm : (nm, Rows.laid_unicode_utf8_acceptRanges) ∈ l) (hn : Tryd.prog.globalNamed nm = some 6) :
    ∀ i, i < 16 → W.cell? ⟨6, 2 * i, none⟩ = some (.int .u8 (Lib.accLo i)) ∧ W.cell? ⟨6, 2 * i + 1, none⟩ = some (.int .u8 (Lib.accHi i)) := by
  intro i hi
  obtain ⟨g, t, cs, fuel, p, hg, ht, hv, hd⟩ := Lib.laidMet.reads hL hm
  obtain rfl := Option.some.inj (hn.symm.trans hg)
  obtain rfl := Option.some.inj (tAcc.symm.trans ht)
  rw [laidAcc] at hd
  obtain ⟨fuel', d, q, hdi, he⟩ := Lib.array_elem Tryd.underlying99 hd i hi
  simp only [List.getElem?_map, List.getElem?_range hi, Option.map_some, Option.some.injEq] at hdi
  subst hdi
  have c98 : Tryd.prog.cellsOf 98 = 2 := by kernel_rfl
  have c5 : Tryd.prog.cellsOf 5 = 1 := by kernel_rfl
  rw [c98] at he
  have hcs := Lib.ints_of_struct Tryd.underlying98 (fun j f hj => by
    match j, hj with
    | 0, hj => simp at hj; subst hj; exact ⟨Tryd.underlying5, rfl, c5⟩
    | 1, hj => simp at hj; subst hj; exact ⟨Tryd.underlying5, rfl, c5⟩
    | j + 2, hj => simp at hj) (by rw [c98]; rfl) he
  have e0 := congrArg (·[0]?) hcs
  have e1 := congrArg (·[1]?) hcs
  simp only [List.getElem?_take, List.getElem?_drop] at e0 e1
  constructor
  · rw [World.var?_cell hg hv (2 * i), ← Array.getElem?_toList]
    simpa [Nat.mul_comm] using e0
  · rw [World.var?_cell hg hv (2 * i + 1), ← Array.getElem?_toList]
    simpa [Nat.mul_comm] using e1
theorem whiteX : WhiteExtra Tryd.prog Tryd.lays199_ren := ⟨by kernel_rfl, by kernel_rfl, by kernel_rfl, by kernel_rfl, by kernel_rfl, by kernel_rfl, by kernel_rfl, by kernel_rfl⟩
theorem white_of {W : World} {l : List (String × DataW Unit)} (hL : laidMet Tryd.prog l W) (hm : ("unicode.White_Space", Rows.laid_unicode_White_Space) ∈ l) : Lib.WhiteTab 2 W := by
  have h := Lib.laidMet.reads hL hm
  rw [laidWh] at h
  exact whiteTab_of_reads Tryd.lays199 whiteX h
theorem max_of {W : World} (hsh : W.ShapedOpen Tryd.prog) : ∃ m : Int, W.cell? ⟨1, 0, none⟩ = some (.int .i64 m) :=
  cell_of_shapedOpen_int (g := 1) (t := 3) (zero := #[.int .i64 0]) hsh (of_decide_eq_true (by kernel_rfl)) (by kernel_rfl) rfl (by kernel_rfl) (by kernel_rfl) Tryd.underlying3
end Go.Proofs.Qxb6602280aDoor
