/-
  exponentText, the builder's writes, String of a decimal, ZZDecimalString.
-/
import Derived.Test.Qxb6602256aDoorShelfC
import Derived.Test.Qxb6602256aDoorPlainK
import Derived.Test.Qxb6602256aDoorWalksD
import Derived.Deep.DeepCutAuto
import Derived.Deep.CutBlock
import Derived.Lib.AppendIntMem
namespace Go.Proofs.Qxb6602256aDoor
open Go.RowKit

/-- The table that FormatInt reads. -/
def Pow (w : World) : Prop := ∃ (T : TypeId) (fr : Nat × Nat), w.heap[5]? = some (.cells (Lib.pow10Tab.map fun z => Value.int .u64 z).toArray T fr)
theorem Pow.tab {w : World} {nm : String} (h : Pow w) (hg : Tryd.prog.globalNamed nm = some 5) : Lib.TabIs Tryd.prog w nm .u64 Lib.pow10Tab := by
  obtain ⟨T, fr, h⟩ := h
  unfold Lib.TabIs World.var?
  rw [hg]
  simp [h]
theorem Pow.of_tab {w : World} {nm : String} (h : Lib.TabIs Tryd.prog w nm .u64 Lib.pow10Tab) (hg : Tryd.prog.globalNamed nm = some 5) : Pow w := by
  unfold Lib.TabIs World.var? at h
  rw [hg] at h
  simp only [Option.bind_some] at h
  split at h
  · rename_i cs T fr he
    refine ⟨T, fr, ?_⟩
    rw [he, Option.some.inj h]
  · cases h
theorem Pow.below {w w' : World} (h : Pow w) (hb : Below w.heap.size w w') : Pow w' := by
  obtain ⟨T, fr, h⟩ := h
  exact ⟨T, fr, by rw [hb.block 5 (Array.getElem?_eq_some_iff.1 h).1]; exact h⟩
theorem fmtInt_any (z : Int) (w : World) (h0 : -9223372036854775808 ≤ z) (h1 : z ≤ 9223372036854775807) (hP : Pow w) :
    Calls Tryd.prog 64 #[.int .i64 z, .int .i64 10] w fun e w' => e = .returned (.string ⟨(Pl.itxt z).toArray⟩) ∧ Below w.heap.size w w' := by
  refine (Any.strconv_FormatInt_10 Tryd.laysM173 z h0 h1 w (hP.tab (by kernel_rfl))).mono ?_
  rintro e w' ⟨rfl, k, os, rfl⟩
  exact ⟨by rw [Pl.itxt_itoa], Lib.below_grow _ _ (Nat.le_refl _) _ _⟩
def agg (d : Pl.Dec) : Value := .agg #[.bool d.neg, .string ⟨d.digits.toArray⟩, .int .i64 d.exp, .string ⟨d.far.toArray⟩]
/-- The exponent's text. -/
def expTxt (d : Pl.Dec) : List UInt8 := if d.far = [] then Pl.itxt d.exp else d.far
set_option maxRecDepth 100000 in
theorem expText_any (d : Pl.Dec) (w : World) (h0 : -9223372036854775808 ≤ d.exp) (h1 : d.exp ≤ 9223372036854775807) (hP : Pow w) :
    Calls Tryd.prog 45 #[agg d] w fun e w' => e = .returned (.string ⟨(expTxt d).toArray⟩) ∧ Below w.heap.size w w' := by
  obtain ⟨neg, digits, exp, far⟩ := d
  unfold agg expTxt
  dsimp only at h0 h1 ⊢
  have hP1 : Pow (w.alloc (.cells #[.bool neg, .string ⟨digits.toArray⟩, .int .i64 exp, .string ⟨far.toArray⟩] 38)) := hP.below ((Below.refl _ _).alloc (Nat.le_refl _) _)
  cases far with
  | nil =>
    go_enter Tryd.func45, Tryd.ntmps45
    go_wp2_with (go_at_call 64; refine (fmtInt_any exp _ h0 h1 hP1).mono ?_; rintro e w' ⟨rfl, hb⟩)
    go_ret
    exact ⟨rfl, below_then ((Below.refl _ _).alloc (Nat.le_refl _) _) hb⟩
  | cons c r =>
    go_enter Tryd.func45, Tryd.ntmps45
    go_wp2
    go_ret
    exact ⟨rfl, (Below.refl _ _).alloc (Nat.le_refl _) _⟩

/-- In w: the boxed decimal at w0's first new block, the builder (holding l) at the next, and below all as in w0. -/
structure Bld (d : Pl.Dec) (w0 : World) (l : List UInt8) (w : World) : Prop where
  bld : Lib.IsBuilder 55 5 (w0.heap.size + 1) (w0.heap.size + 1) (Lib.byteCells l) w
  bel : Below w0.heap.size w0 w
  blk : w.heap[w0.heap.size]? = some (.cells #[.bool d.neg, .string ⟨d.digits.toArray⟩, .int .i64 d.exp, .string ⟨d.far.toArray⟩] 38 (0, 0))
namespace Bld
variable {d : Pl.Dec} {w0 w : World} {l : List UInt8}
theorem size (h : Bld d w0 l w) : w0.heap.size + 1 < w.heap.size := h.bld.elim (fun x => x.lt) (fun x => x.lt)
theorem cell (h : Bld d w0 l w) (k : Nat) : w.cell? ⟨w0.heap.size, k, none⟩ = (#[.bool d.neg, .string ⟨d.digits.toArray⟩, .int .i64 d.exp, .string ⟨d.far.toArray⟩] : Array Value)[k]? := by
  unfold World.cell?
  simp [h.blk]
theorem c0 (h : Bld d w0 l w) : w.cell? ⟨w0.heap.size, 0, none⟩ = some (.bool d.neg) := h.cell 0
theorem c1 (h : Bld d w0 l w) : w.cell? ⟨w0.heap.size, 1, none⟩ = some (.string ⟨d.digits.toArray⟩) := h.cell 1
theorem c2 (h : Bld d w0 l w) : w.cell? ⟨w0.heap.size, 2, none⟩ = some (.int .i64 d.exp) := h.cell 2
theorem c3 (h : Bld d w0 l w) : w.cell? ⟨w0.heap.size, 3, none⟩ = some (.string ⟨d.far.toArray⟩) := h.cell 3
theorem other (h : Bld d w0 l w) {w' : World} (hb : Below w.heap.size w w') : Bld d w0 l w' := by
  have hs := h.size
  have hB : ∀ p, Lib.BuilderAt 55 5 (w0.heap.size + 1) (w0.heap.size + 1) p (Lib.byteCells l) w → Lib.BuilderAt 55 5 (w0.heap.size + 1) (w0.heap.size + 1) p (Lib.byteCells l) w' := by
    rintro p ⟨hB, v, hv, hown, hne⟩
    exact ⟨hB, v, (hb.block _ hs).trans hv, hown.kept (row := none) ⟨hb.os, hb.tape, hb.output, hb.size, fun k hk _ => hb.block k hk⟩ (Classical.em _), hne⟩
  exact ⟨h.bld.elim (fun x => Or.inl (hB _ x)) (fun x => Or.inr (hB _ x)), h.bel.trans (hb.mono (by omega)), (hb.block _ (by omega)).trans h.blk⟩
theorem keep (h : Bld d w0 l w) {l' : List UInt8} {w' : World} (hB : Lib.IsBuilder 55 5 (w0.heap.size + 1) (w0.heap.size + 1) (Lib.byteCells l') w') (hb : Below (w0.heap.size + 1) w w') : Bld d w0 l' w' :=
  ⟨hB, h.bel.trans (hb.mono (by omega)), (hb.block _ (by omega)).trans h.blk⟩
theorem putS (h : Bld d w0 l w) (s : ByteArray) (hl : l.length + s.size ≤ 100000000) :
    Calls Tryd.prog 44 #[.pointer (some ⟨w0.heap.size + 1, 0, none⟩), .string s] w fun e w' => e = .returned (.tuple #[.int .i64 s.size, .nilIface]) ∧ Bld d w0 (l ++ s.data.toList) w' := by
  have hs := h.size
  refine (Tryd.Builder_WriteString _ _ _ s w h.bld (by rw [Lib.byteCells_length]; omega) (by omega)).mono ?_
  rintro e w' ⟨rfl, h1, h2⟩
  refine ⟨rfl, h.keep (Or.inr ?_) h2⟩
  rw [Lib.byteCells_append]
  exact h1
theorem putL (h : Bld d w0 l w) (x : List UInt8) (hl : l.length + x.length ≤ 100000000) :
    Calls Tryd.prog 44 #[.pointer (some ⟨w0.heap.size + 1, 0, none⟩), .string ⟨x.toArray⟩] w fun e w' => e = .returned (.tuple #[.int .i64 (x.length : Int), .nilIface]) ∧ Bld d w0 (l ++ x) w' := h.putS ⟨x.toArray⟩ hl
theorem putB (h : Bld d w0 l w) (c : UInt8) (hl : l.length ≤ 100000000) :
    Calls Tryd.prog 43 #[.pointer (some ⟨w0.heap.size + 1, 0, none⟩), .int .u8 (c.toNat : Int)] w fun e w' => e = .returned .nilIface ∧ Bld d w0 (l ++ [c]) w' := by
  have hs := h.size
  refine (Tryd.Builder_WriteByte _ _ _ (c.toNat : Int) w h.bld (by rw [Lib.byteCells_length]; omega) (by omega)).mono ?_
  rintro e w' ⟨rfl, h1, h2⟩
  refine ⟨rfl, h.keep (Or.inr ?_) h2⟩
  rw [Lib.byteCells_append]
  exact h1
theorem str (h : Bld d w0 l w) :
    Calls Tryd.prog 47 #[.pointer (some ⟨w0.heap.size + 1, 0, none⟩)] w fun e w' => e = .returned (.string ⟨l.toArray⟩) ∧ Below w0.heap.size w0 w' := by
  have hs := h.size
  refine (Tryd.Builder_String_any _ _ l w h.bld (by omega)).mono ?_
  rintro e w' ⟨rfl, h2⟩
  exact ⟨rfl, h.bel.trans (h2.mono (by omega))⟩
end Bld
theorem repeat_any (k : Nat) (w : World) (hk : k ≤ 100000000) :
    Calls Tryd.prog 46 #[.string ⟨#[48]⟩, .int .i64 (k : Int)] w fun e w' => e = .returned (.string ⟨(List.replicate k (48 : UInt8)).toArray⟩) ∧ Below w.heap.size w w' := by
  refine (Tryd.strings_Repeat ⟨#[48]⟩ k w (by omega) (by show 1 * k ≤ _; omega)).mono ?_
  rintro e w' ⟨rfl, h2⟩
  refine ⟨?_, h2⟩
  have := Lib.repeatL_replicate 48 1 k
  rw [Nat.mul_one] at this
  rw [← this]
  rfl

/-- The sign's text. -/
def sgn (b : Bool) : List UInt8 := if b then [45] else []
theorem start (d : Pl.Dec) (w : World) : Bld d w [] ((w.alloc (.cells #[.bool d.neg, .string ⟨d.digits.toArray⟩, .int .i64 d.exp, .string ⟨d.far.toArray⟩] 38)).alloc (.cells #[.pointer none, .slice none 0 0] 55)) := by
  have h1 : (w.alloc (.cells #[.bool d.neg, .string ⟨d.digits.toArray⟩, .int .i64 d.exp, .string ⟨d.far.toArray⟩] 38)).heap.size = w.heap.size + 1 := by show (w.heap.push _).size = _; simp
  refine ⟨?_, ((Below.refl _ _).alloc (Nat.le_refl _) _).alloc (by omega) _, ?_⟩
  · have := Lib.fresh_isBuilder 55 5 (w.alloc (.cells #[.bool d.neg, .string ⟨d.digits.toArray⟩, .int .i64 d.exp, .string ⟨d.far.toArray⟩] 38))
    rw [h1] at this
    exact this
  · rw [Below.heap_alloc _ _ _ (by omega)]
    show (w.heap.push _)[w.heap.size]? = _
    simp

theorem sgn_len (b : Bool) : (sgn b).length ≤ 1 := by cases b <;> simp [sgn]
theorem ext_take (l : List UInt8) (k : Nat) : (ByteArray.mk l.toArray).extract 0 k = ⟨(l.take k).toArray⟩ := by
  apply ByteArray.ext
  simp [ByteArray.data_extract]
theorem ext_drop (l : List UInt8) (k m : Nat) (h : m = l.length) : (ByteArray.mk l.toArray).extract k m = ⟨(l.drop k).toArray⟩ := by
  subst h
  apply ByteArray.ext
  simp [ByteArray.data_extract, List.take_of_length_le]
def frc (r : List UInt8) : List UInt8 := if r = [] then [] else 46 :: r
theorem frc_len (r : List UInt8) : (frc r).length ≤ r.length + 1 := by unfold frc; split <;> simp
/-- Written with an exponent? -/
def sciB (far : List UInt8) (exp : Int) : Bool := decide (far ≠ []) || decide (exp < -5) || decide (38 < exp)
/-- What String writes. -/
def strL (d : Pl.Dec) : List UInt8 :=
  sgn d.neg ++ (if sciB d.far d.exp = true then d.digits.take 1 ++ frc (d.digits.drop 1) ++ [101] ++ Pl.sum (expTxt d) (-1)
    else if d.exp ≤ 0 then [48, 46] ++ List.replicate (-d.exp).toNat 48 ++ d.digits
    else if (d.digits.length : Int) ≤ d.exp then d.digits ++ List.replicate (d.exp - d.digits.length).toNat 48
    else d.digits.take d.exp.toNat ++ [46] ++ d.digits.drop d.exp.toNat)
set_option maxRecDepth 100000 in
set_option maxHeartbeats 2000000 in
theorem string_any (d : Pl.Dec) (w : World) (h0 : -9223372036854775808 ≤ d.exp) (h1 : d.exp ≤ 9223372036854775807) (hP : Pow w) (c : UInt8) (r : List UInt8) (hd : d.digits = c :: r) (hr : r.length ≤ 2000000)
    (hx : sciB d.far d.exp = true → Pl.Canon (expTxt d) ∧ 1 < Pl.val (Pl.mag (expTxt d)) ∧ (expTxt d).length ≤ 2000000 ∧ (Pl.sum (expTxt d) (-1)).length ≤ 2000000) :
    Calls Tryd.prog 35 #[agg d] w fun e w' => e = .returned (.string ⟨(strL d).toArray⟩) ∧ Below w.heap.size w w' := by
  have hst := start d w
  obtain ⟨neg, digits, exp, far⟩ := d
  have hE := fun (W : World) (hW : Pow W) => expText_any ⟨neg, digits, exp, far⟩ W h0 h1 hW
  obtain ⟨Y, hY⟩ : ∃ Y, strL ⟨neg, digits, exp, far⟩ = Y := ⟨_, rfl⟩
  rw [hY]
  unfold agg at hE ⊢
  unfold strL at hY
  dsimp only at h0 h1 hd hst hx hE hY ⊢
  subst hd
  have HY := (show Hid _ from hY)
  clear hY
  have hsg := sgn_len neg
  go_enter Tryd.func35, Tryd.ntmps35
  go_upto_if 9 with fail
  go_cut [10] from 5 to 10 (fun _ wx => ∃ w1, Bld ⟨neg, c :: r, exp, far⟩ w (sgn neg) w1 ∧ w1 = wx)
  case first =>
    cases neg with
    | false =>
      go_wp2_with fail
      go_meet
      case rel => exact ⟨_, hst, rfl⟩
    | true =>
      go_wp2_with (go_at_call 43; refine (hst.putB 45 (by simp)).mono ?_; rintro e w' ⟨rfl, hB⟩)
      go_meet
      case rel => exact ⟨_, hB, rfl⟩
  case rest =>
  clear hst
  obtain ⟨w1, hB, rfl⟩ := hcut
  have c1 := hB.c1
  have c2 := hB.c2
  have c3 := hB.c3
  dsimp only at c1 c2 c3
  go_upto_region 10 with fail
  go_cut [27] from 28 to 40 (fun t wx => t = .bool (sciB far exp) ∧ w1 = wx)
  case first =>
    by_cases hf : far = []
    · subst hf
      by_cases hl : exp < -5
      · go_wp2_with fail
        go_meet
        case rel => exact ⟨by simp [sciB, hl], rfl⟩
      · by_cases hg : 38 < exp
        · go_wp2_with fail
          go_meet
          case rel => exact ⟨by simp [sciB, hg], rfl⟩
        · go_wp2_with fail
          go_meet
          case rel => exact ⟨by simp [sciB, hl, hg], rfl⟩
    · go_wp2_with fail
      go_meet
      case rel => exact ⟨by simp [sciB, hf], rfl⟩
  case rest =>
  obtain ⟨rfl, rfl⟩ := hcut
  cases hsci : sciB far exp with
  | true =>
    have hP1 := hP.below hB.bel
    obtain ⟨x1, x2, x3, x4⟩ := hx hsci
    clear hx
    go_upto_if 46 with (go_at_call 44; simp only [ext_take]; refine (Bld.putL (by assumption) _ (by simp <;> omega)).mono ?_; rintro e w' ⟨rfl, hB⟩; have c1 := hB.c1; have c2 := hB.c2; have c3 := hB.c3; dsimp only at c1 c2 c3)
    go_cut [51] from 47 to 51 (fun _ wx => ∃ w2, Bld ⟨neg, c :: r, exp, far⟩ w (sgn neg ++ [c] ++ frc r) w2 ∧ w2 = wx)
    case first =>
      cases r with
      | nil =>
        go_wp2_with fail
        go_meet
        case rel => exact ⟨_, by simpa [frc] using hB, rfl⟩
      | cons c' r' =>
        go_wp2_with (go_at_call 44; (try rw [ext_drop _ _ _ (by simp)]); refine (Bld.putL (by assumption) _ (by simp at hr ⊢ <;> omega)).mono ?_; rintro e w' ⟨rfl, hB⟩; have c1 := hB.c1; dsimp only at c1)
        go_meet
        case rel => exact ⟨_, by simpa [frc] using hB, rfl⟩
    case rest =>
    clear c1 c2 c3 hB
    obtain ⟨w2, hB, rfl⟩ := hcut
    have hfr := frc_len r
    go_upto_region 16 with (go_at_call 44; refine (Bld.putL (by assumption) [101] (by simp <;> omega)).mono ?_; rintro e w' ⟨rfl, hB⟩)
    have c0 := hB.c0
    have c1 := hB.c1
    have c2 := hB.c2
    have c3 := hB.c3
    have hP2 := hP.below hB.bel
    dsimp only at c0 c1 c2 c3
    obtain ⟨X, hX⟩ : ∃ X, expTxt ⟨neg, c :: r, exp, far⟩ = X := ⟨_, rfl⟩
    rw [hX] at hE x1 x2 x3 x4
    have hA : ∀ W : World, Calls Tryd.prog 28 #[.string ⟨X.toArray⟩, .int .i64 (-1)] W fun e w' => e = .returned (.string ⟨(Pl.sum X (-1)).toArray⟩) ∧ Below W.heap.size W w' := fun W =>
      add_any ⟨X.toArray⟩ (-1) W (by show X.length ≤ _; omega) x1 (by decide) (by decide) (by exact x2)
    go_wp2_with (first
      | (go_at_call 45; refine (hE _ hP2).mono ?_; rintro e w3 ⟨rfl, hbe⟩)
      | (go_at_call 28; refine (hA _).mono ?_; rintro e w4 ⟨rfl, hba⟩; have hB4 := (hB.other hbe).other hba)
      | (go_at_call 44; refine (Bld.putL (by assumption) _ (by simp <;> omega)).mono ?_; rintro e w5 ⟨rfl, hB5⟩)
      | (go_at_call 47; refine (Bld.str (by assumption)).mono ?_; rintro e w6 ⟨rfl, hb6⟩))
    go_ret
    refine ⟨ret_str ?_, hb6⟩
    have hY := HY.out
    rw [if_pos hsci, hX] at hY
    rw [← hY]
    simp
  | false =>
    obtain ⟨hf, hl, hg⟩ : far = [] ∧ -5 ≤ exp ∧ exp ≤ 38 := by
      have h := hsci
      simp only [sciB, Bool.or_eq_false_iff, decide_eq_false_iff_not, ne_eq, Decidable.not_not] at h
      exact ⟨h.1.1, by omega, by omega⟩
    clear hx hE hP
    by_cases hz : exp ≤ 0
    · obtain ⟨k, hk⟩ : ∃ k : Nat, -exp = (k : Int) := ⟨(-exp).toNat, by omega⟩
      have hk1 := (show Hid _ from hk)
      clear hk
      have hR := fun W => repeat_any k W (by have := hk1.out; omega)
      rw [← hk1.out] at hR
      go_wp2_with (first
        | (go_at_call 46; refine (hR _).mono ?_; rintro e w3 ⟨rfl, hbe⟩; have hB := Bld.other (by assumption) hbe; have c1 := hB.c1; have c2 := hB.c2; dsimp only at c1 c2)
        | (go_at_call 44; refine (Bld.putL (by assumption) _ (by have := hk1.out; simp <;> omega)).mono ?_; rintro e w4 ⟨rfl, hB⟩; have c1 := hB.c1; have c2 := hB.c2; dsimp only at c1 c2)
        | (go_at_call 47; refine (Bld.str (by assumption)).mono ?_; rintro e w6 ⟨rfl, hb6⟩))
      go_ret
      refine ⟨ret_str ?_, hb6⟩
      have hk2 : (-exp).toNat = k := by have := hk1.out; omega
      have hY := HY.out
      rw [if_neg (by rw [hsci]; decide), if_pos hz, hk2] at hY
      rw [← hY]
      simp
    · by_cases hn : (r.length : Int) + 1 ≤ exp
      · obtain ⟨k, hk⟩ : ∃ k : Nat, exp - ((r.length : Int) + 1) = (k : Int) := ⟨(exp - ((r.length : Int) + 1)).toNat, by omega⟩
        have hk1 := (show Hid _ from hk)
        clear hk
        have hR := fun W => repeat_any k W (by have := hk1.out; omega)
        rw [← hk1.out] at hR
        go_wp2_with (first
          | (go_at_call 46; refine (hR _).mono ?_; rintro e w3 ⟨rfl, hbe⟩; have hB := Bld.other (by assumption) hbe; have c1 := hB.c1; have c2 := hB.c2; dsimp only at c1 c2)
          | (go_at_call 44; refine (Bld.putL (by assumption) _ (by have := hk1.out; simp <;> omega)).mono ?_; rintro e w4 ⟨rfl, hB⟩; have c1 := hB.c1; have c2 := hB.c2; dsimp only at c1 c2)
          | (go_at_call 47; refine (Bld.str (by assumption)).mono ?_; rintro e w6 ⟨rfl, hb6⟩))
        go_ret
        refine ⟨ret_str ?_, hb6⟩
        have hk2 : (exp - (((c :: r).length : Nat) : Int)).toNat = k := by have := hk1.out; simp; omega
        have hY := HY.out
        rw [if_neg (by rw [hsci]; decide), if_neg (by omega), if_pos (by simpa using hn), hk2] at hY
        rw [← hY]
        simp
      · obtain ⟨k, hk⟩ : ∃ k : Nat, exp = (k : Int) := ⟨exp.toNat, by omega⟩
        subst hk
        go_wp2_with (first
          | (go_at_call 44; (try simp only [ext_take]); (try rw [ext_drop _ _ _ (by simp)]); refine (Bld.putL (by assumption) _ (by simp <;> omega)).mono ?_; rintro e w4 ⟨rfl, hB⟩; have c1 := hB.c1; have c2 := hB.c2; dsimp only at c1 c2)
          | (go_at_call 47; refine (Bld.str (by assumption)).mono ?_; rintro e w6 ⟨rfl, hb6⟩))
        go_ret
        refine ⟨ret_str ?_, hb6⟩
        have hY := HY.out
        rw [if_neg (by rw [hsci]; decide), if_neg (by omega), if_neg (by simpa using hn)] at hY
        rw [← hY]
        simp
set_option maxRecDepth 100000 in
theorem string_zero (d : Pl.Dec) (w : World) (hd : d.digits = []) :
    Calls Tryd.prog 35 #[agg d] w fun e w' => e = .returned (.string ⟨#[48]⟩) ∧ Below w.heap.size w w' := by
  obtain ⟨neg, digits, exp, far⟩ := d
  unfold agg
  dsimp only at hd ⊢
  subst hd
  go_enter Tryd.func35, Tryd.ntmps35
  go_wp2
  go_ret
  exact ⟨rfl, (Below.refl _ _).alloc (Nat.le_refl _) _⟩

/-- String's text, a decimal without digits too. -/
def strD (d : Pl.Dec) : List UInt8 := if d.digits = [] then [48] else strL d
/-- What String asks of a decimal. -/
structure Fair (d : Pl.Dec) : Prop where
  lo : -9223372036854775808 ≤ d.exp
  hi : d.exp ≤ 9223372036854775807
  len : d.digits.length ≤ 2000000
  sci : d.digits ≠ [] → sciB d.far d.exp = true → Pl.Canon (expTxt d) ∧ 1 < Pl.val (Pl.mag (expTxt d)) ∧ (expTxt d).length ≤ 2000000 ∧ (Pl.sum (expTxt d) (-1)).length ≤ 2000000
set_option maxRecDepth 100000 in
theorem stringZ_any (d : Pl.Dec) (w : World) (hf : Fair d) (hP : Pow w) :
    Calls Tryd.prog 21 #[.bool d.neg, .string ⟨d.digits.toArray⟩, .int .i64 d.exp, .string ⟨d.far.toArray⟩] w fun e w' => e = .returned (.string ⟨(strD d).toArray⟩) ∧ Below w.heap.size w w' := by
  have h : Calls Tryd.prog 35 #[agg d] w fun e w' => e = .returned (.string ⟨(strD d).toArray⟩) ∧ Below w.heap.size w w' := by
    cases hd : d.digits with
    | nil =>
      rw [strD, if_pos hd]
      exact string_zero d w hd
    | cons c r =>
      have h0 : d.digits ≠ [] := by rw [hd]; simp
      rw [strD, if_neg h0]
      exact string_any d w hf.lo hf.hi hP c r hd (by have := hf.len; rw [hd] at this; simp at this; omega) (hf.sci h0)
  obtain ⟨Y, hY⟩ : ∃ Y, strD d = Y := ⟨_, rfl⟩
  rw [hY] at h ⊢
  clear hY hf
  unfold agg at h
  obtain ⟨neg, digits, exp, far⟩ := d
  dsimp only at h ⊢
  go_enter Tryd.func21, Tryd.ntmps21
  go_wp2_with (go_at_call 35; refine h.mono ?_; rintro e w' ⟨rfl, hb⟩)
  go_ret
  exact ⟨rfl, hb⟩
end Go.Proofs.Qxb6602256aDoor
