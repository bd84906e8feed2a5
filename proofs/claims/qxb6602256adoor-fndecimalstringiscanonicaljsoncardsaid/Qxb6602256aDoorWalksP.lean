/-
  parseDecimal.
-/
import Derived.Test.Qxb6602256aDoorLaw2
import Derived.Test.Qxb6602256aDoorShelfB
import Derived.Test.Qxb6602256aDoorPlainL
import Derived.Shelf.Strings.SlTrimAscii
import Derived.Deep.DeepCutAuto
namespace Go.Proofs.Qxb6602256aDoor
open Go.RowKit

/-! ### The library's contracts at lists of bytes -/
theorem indexAny_list (l : List UInt8) (w : World) (hl : l.length ≤ 4000000) (ha : ∀ c ∈ l, c.toNat < 128) :
    Calls Tryd.prog 39 #[.string ⟨l.toArray⟩, .string ⟨#[101, 69]⟩] w fun e w' => e = .returned (.int .i64 (Lib.indexAny l [101, 69])) ∧ Below w.heap.size w w' :=
  Tryd.strings_IndexAny_laid ⟨l.toArray⟩ ⟨#[101, 69]⟩ w (by rw [size_mk]; omega) (by decide) (fun j b hb => ha b (List.mem_of_getElem? hb)) (ascii_of_all (by decide))
theorem cut_list (l : List UInt8) (mx : Int) (w : World) (hl : l.length ≤ 4000000) (hm : w.cell? ⟨0, 0, none⟩ = some (.int .i64 mx)) :
    Calls Tryd.prog 40 #[.string ⟨l.toArray⟩, .string ⟨#[46]⟩] w fun e w' => e = .returned (.tuple #[.string ⟨(Lib.cut l [46]).1.toArray⟩, .string ⟨(Lib.cut l [46]).2.1.toArray⟩, .bool (Lib.cut l [46]).2.2]) ∧ Below w.heap.size w w' := by
  refine (Tryd.strings_Cut ⟨l.toArray⟩ ⟨#[46]⟩ mx w (by rw [size_mk]; omega) hm).mono ?_
  rintro e w' ⟨rfl, n, rfl⟩
  exact ⟨rfl, below_drewN (Below.refl _ _) _⟩
theorem trimRight0 (l : List UInt8) (w : World) (hl : l.length ≤ 4000000) :
    Calls Tryd.prog 41 #[.string ⟨l.toArray⟩, .string ⟨#[48]⟩] w fun e w' => e = .returned (.string ⟨(Pl.stripR l).toArray⟩) ∧ w' = w := Tryd.strings_TrimRight_one ⟨l.toArray⟩ 48 (by decide) w (by rw [size_mk]; omega)
theorem trimSigns (l : List UInt8) (w : World) :
    Calls Tryd.prog 38 #[.string ⟨l.toArray⟩, .string ⟨#[43, 45]⟩] w fun e w' => e = .returned (.string ⟨(Lib.trimLeftS l [43, 45]).toArray⟩) ∧ Below w.heap.size w w' :=
  Any.strings_TrimLeft_laid Tryd.lays161 (by kernel_rfl) ⟨l.toArray⟩ ⟨#[43, 45]⟩ w (by decide) (ascii_of_all (by decide))
theorem below_bytesWorld (w : World) (e : TypeId) (t : ByteArray) : Below w.heap.size w (Lib.bytesWorld w e t) :=
  ⟨rfl, rfl, rfl, by rw [Lib.bytesWorld_size]; omega, fun k hk => Lib.bytesWorld_at_old w e t k hk⟩
theorem parseInt_ok (l : List UInt8) (v : Int) (w : World) (hl : l.length ≤ 4000000) (h : Lib.parseIntB 64 l = .ok v) :
    Calls Tryd.prog 42 #[.string ⟨l.toArray⟩, .int .i64 10, .int .i64 64] w fun e w' => e = .returned (.tuple #[.int .i64 v, .nilIface]) ∧ Below w.heap.size w w' := by
  refine (Tryd.strconv_ParseInt_10_at64_ok ⟨l.toArray⟩ (by rw [size_mk]; omega) v h w).mono ?_
  rintro e w' ⟨rfl, hw⟩
  refine ⟨rfl, ?_⟩
  rcases hw with rfl | ⟨t, rfl⟩
  · exact Below.refl _ _
  · exact below_bytesWorld w 5 t
theorem parseInt_range (l : List UInt8) (ev : Value) (w : World) (hl : l.length ≤ 4000000) (h : Lib.parseIntB 64 l = .range) (hv : w.cell? ⟨2, 0, none⟩ = some ev) (hev : ev = .nilIface ∨ ∃ te pe, ev = .iface te pe) :
    Calls Tryd.prog 42 #[.string ⟨l.toArray⟩, .int .i64 10, .int .i64 64] w fun e w' => ∃ N, e = .returned (.tuple #[.int .i64 (Lib.intSat 64 l), .iface 86 (.pointer (some ⟨N, 0, none⟩))]) ∧ Below w.heap.size w w' := by
  refine (Tryd.strconv_ParseInt_10_at64_range ⟨l.toArray⟩ (by rw [size_mk]; omega) h ev w hv hev).mono ?_
  rintro e w' ⟨N, rfl, _, _, hb⟩
  exact ⟨N, rfl, hb⟩

theorem mag_neg' {l : List UInt8} (h : Pl.neg l = true) : Pl.mag l = l.drop 1 := by
  unfold Pl.mag; rw [if_pos ((Pl.neg_iff l).1 h)]; simp
theorem mag_pos' {l : List UInt8} (h : Pl.neg l = false) : Pl.mag l = l := by
  unfold Pl.mag; rw [if_neg (fun e => by rw [(Pl.neg_iff l).2 e] at h; cases h)]

theorem ext_end (l : List UInt8) (k : Nat) (_ : k ≤ l.length) : (⟨l.toArray⟩ : ByteArray).extract k l.length = ⟨(l.drop k).toArray⟩ := by
  have := extract_end ⟨l.toArray⟩ k
  rw [size_mk] at this
  exact this

theorem cell_lt {w : World} {b o : Nat} {v : Value} (h : w.cell? ⟨b, o, none⟩ = some v) : b < w.heap.size := by
  rcases Nat.lt_or_ge b w.heap.size with h1 | h1
  · exact h1
  · unfold World.cell? at h
    simp [Array.getElem?_eq_none h1] at h

theorem far_sum (b : Bool) (V : Nat) (sh : Int) (h : sh.natAbs < V) : Pl.sum (Pl.txt b V) sh = Pl.itxt ((if b = true then -(V : Int) else (V : Int)) + sh) := by
  unfold Pl.sum Pl.itxt
  rw [Pl.txt_neg, Pl.txt_mag, Pl.val_dec]
  cases b
  · simp only [Bool.false_eq_true, if_false]
    have e1 : decide ((V : Int) + sh < 0) = false := by simp; omega
    rw [e1]
    congr 1
    by_cases h1 : sh < 0
    · simp [h1]; omega
    · simp [h1]; omega
  · simp only [if_true]
    have e1 : decide (-(V : Int) + sh < 0) = true := by simp; omega
    rw [e1]
    congr 1
    by_cases h1 : sh < 0
    · simp [h1]; omega
    · simp [h1]; omega

/-! ### The two structs in memory -/
/-- The result's struct (still zero) and d, behind w's blocks. -/
structure St (w wx : World) (sg : Bool) (dg : List UInt8) (ex : Int) (far : List UInt8) : Prop where
  b0 : wx.heap[w.heap.size]? = some (.cells #[.bool false, .string ⟨#[]⟩, .int .i64 0, .string ⟨#[]⟩] 38 (0, 0))
  b1 : wx.heap[w.heap.size + 1]? = some (.cells #[.bool sg, .string ⟨dg.toArray⟩, .int .i64 ex, .string ⟨far.toArray⟩] 38 (0, 0))
  bel : Below w.heap.size w wx

theorem St.init (w : World) (sg : Bool) : St w ((w.alloc (.cells #[.bool false, .string ⟨#[]⟩, .int .i64 0, .string ⟨#[]⟩] 38)).alloc (.cells #[.bool sg, .string ⟨#[]⟩, .int .i64 0, .string ⟨#[]⟩] 38)) sg [] 0 [] := by
  refine ⟨?_, ?_, ((Below.refl _ _).alloc (Nat.le_refl _) _).alloc (by simp) _⟩
  · show ((w.heap.push _).push _)[w.heap.size]? = _
    simp only [Array.getElem?_push, Array.size_push]
    rw [if_neg (by omega), if_pos trivial]
  · show ((w.heap.push _).push _)[w.heap.size + 1]? = _
    simp only [Array.getElem?_push, Array.size_push]
    rw [if_pos trivial]
section
variable {w wx wy : World} {sg : Bool} {dg far : List UInt8} {ex : Int}
theorem St.lt (h : St w wx sg dg ex far) : w.heap.size + 1 < wx.heap.size := by
  rcases Nat.lt_or_ge (w.heap.size + 1) wx.heap.size with h1 | h1
  · exact h1
  · have := h.b1; rw [Array.getElem?_eq_none h1] at this; cases this
theorem St.step (h : St w wx sg dg ex far) (hb : Below wx.heap.size wx wy) : St w wy sg dg ex far :=
  ⟨by rw [hb.block _ (by have := h.lt; omega)]; exact h.b0, by rw [hb.block _ h.lt]; exact h.b1, below_then h.bel hb⟩
theorem St.cells (h : St w wx sg dg ex far) :
    (wx.cell? ⟨w.heap.size + 1, 0, none⟩ = some (.bool sg) ∧ wx.cell? ⟨w.heap.size + 1, 1, none⟩ = some (.string ⟨dg.toArray⟩) ∧ wx.cell? ⟨w.heap.size + 1, 2, none⟩ = some (.int .i64 ex) ∧ wx.cell? ⟨w.heap.size + 1, 3, none⟩ = some (.string ⟨far.toArray⟩)) ∧
    (wx.cell? ⟨w.heap.size, 0, none⟩ = some (.bool false) ∧ wx.cell? ⟨w.heap.size, 1, none⟩ = some (.string ⟨#[]⟩) ∧ wx.cell? ⟨w.heap.size, 2, none⟩ = some (.int .i64 0) ∧ wx.cell? ⟨w.heap.size, 3, none⟩ = some (.string ⟨#[]⟩)) ∧
    (∀ j, wx.frozen? ⟨w.heap.size + 1, j, none⟩ = false) ∧ (∀ j, wx.frozen? ⟨w.heap.size, j, none⟩ = false) := by
  unfold World.cell? World.frozen?
  simp only [h.b0, h.b1]
  simp
theorem St.drew (h : St w wx sg dg ex far) : St w wx.drew sg dg ex far := ⟨h.b0, h.b1, h.bel.drew⟩
theorem St.setDigits (h : St w wx sg dg ex far) (d : List UInt8) : St w (wx.setCell ⟨w.heap.size + 1, 1, none⟩ (.string ⟨d.toArray⟩)) sg d ex far :=
  ⟨by rw [Below.heap_setCell _ _ _ _ (by simp)]; exact h.b0, by have := Go.heap_setCell_same _ _ 1 _ _ (.string ⟨d.toArray⟩) h.b1; exact this, h.bel.setCell (by simp) _⟩
theorem St.setExp (h : St w wx sg dg ex far) (z : Int) : St w (wx.setCell ⟨w.heap.size + 1, 2, none⟩ (.int .i64 z)) sg dg z far :=
  ⟨by rw [Below.heap_setCell _ _ _ _ (by simp)]; exact h.b0, by have := Go.heap_setCell_same _ _ 2 _ _ (.int .i64 z) h.b1; exact this, h.bel.setCell (by simp) _⟩
theorem St.setFar (h : St w wx sg dg ex far) (d : List UInt8) : St w (wx.setCell ⟨w.heap.size + 1, 3, none⟩ (.string ⟨d.toArray⟩)) sg dg ex d :=
  ⟨by rw [Below.heap_setCell _ _ _ _ (by simp)]; exact h.b0, by have := Go.heap_setCell_same _ _ 3 _ _ (.string ⟨d.toArray⟩) h.b1; exact this, h.bel.setCell (by simp) _⟩
end

set_option maxRecDepth 100000 in
set_option maxHeartbeats 1000000 in
theorem parse_any (s : ByteArray) (n : Pl.Num) (hn : n.Ok) (hl : s.data.toList = n.text) (w : World) (hs : s.size ≤ 2000000) (mx : Int) (hm : w.cell? ⟨0, 0, none⟩ = some (.int .i64 mx)) (ev : Value) (hv : w.cell? ⟨2, 0, none⟩ = some ev) (hev : ev = .nilIface ∨ ∃ te pe, ev = .iface te pe) :
    Calls Tryd.prog 33 #[.string s] w fun e w' => e = .returned (.agg #[.bool n.dec.neg, .string ⟨n.dec.digits.toArray⟩, .int .i64 n.dec.exp, .string ⟨n.dec.far.toArray⟩]) ∧ Below w.heap.size w w' := by
  obtain ⟨sg, hsg⟩ : ∃ b, n.sign = b := ⟨_, rfl⟩
  obtain ⟨M, hM⟩ : ∃ M, Pl.mag n.text = M := ⟨_, rfl⟩
  have hng : Pl.neg s.data.toList = sg := by rw [hl, Pl.Num.neg_text hn, hsg]
  have hmg : Pl.mag s.data.toList = M := by rw [hl, hM]
  have HNG : Hid (Pl.neg s.data.toList = sg) := hng
  clear hng
  go_enter Tryd.func33, Tryd.ntmps33
  go_upto_if 20 with (go_at_call 36; refine (Tryd.strings_HasPrefix _ _ _).mono ?_; rintro e w' ⟨rfl, rfl⟩; rw [hasPrefix_neg, HNG.out])
  have hsM : sg = true → s.extract 1 s.size = ⟨M.toArray⟩ := fun h => by
    rw [extract_end, ← hmg, mag_neg' (by rw [HNG.out]; exact h)]
  have hsM0 : sg = false → s = ⟨M.toArray⟩ := fun h => by
    rw [← hmg, mag_pos' (by rw [HNG.out]; exact h), mk_list]
  have hs0 : sg = true → 1 ≤ s.size := fun h => by
    rcases Nat.eq_zero_or_pos s.size with h1 | h1
    · have : s.data.toList = [] := List.eq_nil_of_length_eq_zero (by rw [← size_list]; omega)
      have h2 := HNG.out
      rw [this, h] at h2
      cases h2
    · exact h1
  have HsM : Hid (sg = true → s.extract 1 s.size = ⟨M.toArray⟩) := hsM
  have HsM0 : Hid (sg = false → s = ⟨M.toArray⟩) := hsM0
  clear hsM hsM0 hmg
  go_cut [0] from 19 to 23 (fun v wx => v = .string ⟨M.toArray⟩ ∧ St w wx sg [] 0 [])
  case first =>
    cases sg
    · have H1 : Hid (s = ⟨M.toArray⟩) := HsM0.out rfl
      clear HsM HsM0
      go_wp2_with fail
      go_meet
      case rel => exact ⟨by rw [← H1.out], St.init w false⟩
    · have h1 := hs0 rfl
      have H1 : Hid (s.extract 1 s.size = ⟨M.toArray⟩) := HsM.out rfl
      clear HsM HsM0
      go_wp2_with fail
      go_meet
      case rel => exact ⟨by rw [← H1.out], St.init w true⟩
  case rest =>
  clear HsM HsM0 hs0 HNG
  obtain ⟨rfl, hst⟩ := hcut
  have hMl : M.length ≤ 2000000 := by
    have := Pl.mag_len n.text
    rw [hM, ← hl, ← size_list] at this
    omega
  have hMa : ∀ c ∈ M, c.toNat < 128 := by rw [← hM]; exact Pl.Num.ascii hn
  have hix : Lib.indexAny M [101, 69] = if n.exp = [] then -1 else (n.mant.length : Int) := by rw [← hM]; exact Pl.Num.indexAny_exp hn
  obtain ⟨ix, hixe⟩ : ∃ ix, Lib.indexAny M [101, 69] = ix := ⟨_, rfl⟩
  rw [hixe] at hix
  have HIX : Hid (Lib.indexAny M [101, 69] = ix) := hixe
  have HIV : Hid (ix = if n.exp = [] then -1 else (n.mant.length : Int)) := hix
  clear hixe
  have HMa : Hid (∀ c ∈ M, c.toNat < 128) := hMa
  clear hix hMa
  obtain ⟨X, hX⟩ : ∃ X : List UInt8, X = if n.exp = [] then [] else n.esign ++ n.exp := ⟨_, rfl⟩
  have HX : Hid (X = if n.exp = [] then [] else n.esign ++ n.exp) := hX
  have HM : Hid (Pl.mag n.text = M) := hM
  have HL : Hid (s.data.toList = n.text) := hl
  clear hX hM hl
  go_upto_if 28 with (go_at_call 39; refine (indexAny_list _ _ (by omega) HMa.out).mono ?_; rintro e w1 ⟨rfl, hb1⟩; have hst := hst.step hb1; clear hb1; rw [HIX.out])
  go_cut [4, 5, 6] from 19 to 35 (fun v4 v5 _ wx => v4 = .string ⟨n.mant.toArray⟩ ∧ v5 = .string ⟨X.toArray⟩ ∧ St w wx sg [] 0 [])
  case first =>
    by_cases he : n.exp = []
    · obtain rfl : ix = -1 := by rw [HIV.out, if_pos he]
      have H1 : Hid (M = n.mant) := by rw [← HM.out]; exact Pl.Num.mant_all hn he
      have H2 : Hid (X = []) := by show X = []; rw [HX.out, if_pos he]
      clear HIV HIX HX HM
      go_wp2_with fail
      go_meet
      case rel => exact ⟨by rw [H1.out], by rw [H2.out], by assumption⟩
    · obtain rfl : ix = (n.mant.length : Int) := by rw [HIV.out, if_neg he]
      have H1 : Hid (M.take n.mant.length = n.mant) := by rw [← HM.out]; exact Pl.Num.take_mant hn
      have H2 : Hid (M.drop (n.mant.length + 1) = X) := by rw [HX.out, if_neg he, ← HM.out]; exact Pl.Num.drop_mant hn he
      have hle : n.mant.length + 1 ≤ M.length := by
        have e1 := HM.out
        rw [Pl.Num.mag_split hn, Pl.Num.expText, if_neg he] at e1
        rw [← e1]
        simp
      clear HIV HIX HX HM he
      have hge : decide (0 ≤ (n.mant.length : Int)) = true := by simp
      go_wp2_with fail
      go_region
      go_wp2_with fail
      go_meet
      case rel => exact ⟨by rw [extract_head]; simp only [H1.out], by rw [ext_end _ _ hle, H2.out], ‹St w _ sg [] 0 []›.drew⟩
  case rest =>
  obtain ⟨rfl, rfl, hst⟩ := hcut
  have hlt0 := cell_lt hm
  have hlt2 := cell_lt hv
  obtain ⟨I, hI⟩ : ∃ I, n.int = I := ⟨_, rfl⟩
  obtain ⟨F, hF⟩ : ∃ F, n.frac = F := ⟨_, rfl⟩
  obtain ⟨A, hA⟩ : ∃ A, n.all = A := ⟨_, rfl⟩
  obtain ⟨S, hS⟩ : ∃ S, n.sig = S := ⟨_, rfl⟩
  obtain ⟨D, hD⟩ : ∃ D, n.digits = D := ⟨_, rfl⟩
  have hAe : I ++ F = A := by rw [← hA, ← hI, ← hF]; rfl
  have hSe : Pl.strip A = S := by rw [← hA, ← hS]; rfl
  have hDe : Pl.stripR S = D := by rw [← hS, ← hD]; rfl
  have hcut := Pl.Num.cut_mant hn
  rw [hI, hF] at hcut
  have hlens := Pl.Num.lens hn
  have hLs : n.text.length ≤ 2000000 := by rw [← HL.out, ← size_list]; exact hs
  have hml : n.mant.length ≤ 2000000 := by
    have e1 := HM.out
    rw [Pl.Num.mag_split hn] at e1
    have e2 : M.length = n.mant.length + n.expText.length := by rw [← e1, List.length_append]
    omega
  have hIF : I.length + F.length ≤ 2000000 := by rw [← hI, ← hF]; omega
  have hAl : A.length = I.length + F.length := by rw [← hAe, List.length_append]
  have hSl : S.length ≤ A.length := by rw [← hSe]; exact Pl.strip_len A
  have HC : Hid ((Lib.cut n.mant [46]).1 = I ∧ (Lib.cut n.mant [46]).2.1 = F) := hcut
  have HA : Hid (I ++ F = A) := hAe
  have HS : Hid (Pl.strip A = S) := hSe
  have HD : Hid (Pl.stripR S = D) := hDe
  have HAl : Hid (A.length = I.length + F.length) := hAl
  have hAb : A.length ≤ 2000000 := by omega
  have HdecD : Hid (n.digits = D) := hD
  have HdecS : Hid (n.shift = (I.length : Int) - ((A.length : Int) - (S.length : Int))) := by
    show n.shift = _
    rw [← hI, ← hA, ← hS]; rfl
  have hadd := add_str I F (by omega)
  rw [hAe] at hadd
  clear hAe hSe hDe hcut hAl hI hF hA hS hD HMa HIX HIV hlens hLs
  have hm1 : wc.cell? ⟨0, 0, none⟩ = some (.int .i64 mx) := by rw [hst.bel.cell (p := ⟨0, 0, none⟩) hlt0]; exact hm
  obtain ⟨⟨c0, c1, c2, c3⟩, ⟨d0, d1, d2, d3⟩, hfr1, hfr0⟩ := hst.cells
  go_upto_if 52 with (first
    | (go_at_call 40; refine (cut_list _ mx _ (by omega) hm1).mono ?_; rintro e w1 ⟨rfl, hb1⟩; rw [HC.out.1, HC.out.2]; have hst1 := hst.step hb1; clear hb1 hm1 c0 c1 c2 c3 d0 d1 d2 d3 hfr1 hfr0; obtain ⟨⟨c0, c1, c2, c3⟩, ⟨d0, d1, d2, d3⟩, hfr1, hfr0⟩ := hst1.cells)
    | (go_at_call 38; refine (trimLeft0 _ _).mono ?_; rintro e w2 ⟨rfl, rfl⟩; rw [HS.out])
    | (go_at_call 41; refine (trimRight0 _ _ (by omega)).mono ?_; rintro e w2 ⟨rfl, rfl⟩; rw [HD.out]))
  have hst2 := hst1.setDigits D
  clear hst hst1 hadd HS HD HC HA c0 c1 c2 c3 d0 d1 d2 d3 hfr1 hfr0
  obtain ⟨w3, hw3⟩ : ∃ w3, w2.setCell ⟨w.heap.size + 1, 1, none⟩ (.string ⟨D.toArray⟩) = w3 := ⟨_, rfl⟩
  rw [hw3] at hst2 ⊢
  clear hw3
  obtain ⟨⟨c0, c1, c2, c3⟩, ⟨d0, d1, d2, d3⟩, hfr1, hfr0⟩ := hst2.cells
  by_cases hD0 : D = []
  · have hDb : D.isEmpty = true := by rw [hD0]; rfl
    have Hdec : Hid (n.dec = ⟨false, [], 0, []⟩) := by show n.dec = _; rw [Pl.Num.dec, if_pos (HdecD.out.trans hD0)]
    clear hD0
    rw [hDb]
    go_wp2_with fail
    rw [Hdec.out]
    refine bodyPost_ret (v := .agg #[.bool false, .string ⟨#[]⟩, .int .i64 0, .string ⟨#[]⟩]) (by simp [results, Tryd.results33, go_sem, d0, d1, d2, d3]) rfl ⟨rfl, ?_⟩
    exact (((hst2.bel.setCell (Nat.le_refl _) _).setCell (Nat.le_refl _) _).setCell (Nat.le_refl _) _).setCell (Nat.le_refl _) _
  · have hDb : D.isEmpty = false := by simpa using hD0
    rw [hDb]
    clear hDb
    go_upto_if 63 with fail
    obtain ⟨sh, hsh⟩ : ∃ sh, n.shift = sh := ⟨_, rfl⟩
    have hshb := n.shift_le
    have hlens := Pl.Num.lens hn
    have hLs : n.text.length ≤ 2000000 := by rw [← HL.out, ← size_list]; exact hs
    rw [hsh] at hshb
    have hsh1 : -2000000 ≤ sh := by omega
    have hsh2 : sh ≤ 2000000 := by omega
    rw [← HdecS.out, hsh]
    have HSH : Hid (n.shift = sh) := hsh
    have HdecN : Hid (n.digits ≠ []) := by show n.digits ≠ []; rw [HdecD.out]; exact hD0
    clear HdecS hsh hshb hD0 HM HAl hSl hAb hIF hml hMl
    by_cases he : n.exp = []
    · have hX : X.isEmpty = true := by rw [HX.out, if_pos he]; rfl
      rw [hX]
      clear hX
      have Hdec : Hid (n.dec = ⟨sg, D, sh, []⟩) := by
        show n.dec = _
        have ht : n.total = sh := by rw [Pl.Num.total, HSH.out, he]; simp [Pl.written, Pl.val]
        rw [Pl.Num.dec, if_neg HdecN.out, ht, if_pos ((Pl.fits_iff _).2 (by omega)), hsg, HdecD.out]
      clear HX
      go_wp2_with fail
      rw [Hdec.out]
      refine bodyPost_ret (v := .agg #[.bool sg, .string ⟨D.toArray⟩, .int .i64 sh, .string ⟨#[]⟩]) (by simp [results, Tryd.results33, go_sem, d0, d1, d2, d3]) rfl ⟨rfl, ?_⟩
      exact ((((hst2.bel.setCell (by simp) _).setCell (Nat.le_refl _) _).setCell (Nat.le_refl _) _).setCell (Nat.le_refl _) _).setCell (Nat.le_refl _) _
    · have hX2 : X = n.esign ++ n.exp := by rw [HX.out, if_neg he]
      have hXl : X.length ≤ 2000000 := by rw [hX2]; have := hlens.2.2 he; omega
      have hX : X.isEmpty = false := by
        rw [hX2]; simp; intro _; exact he
      have hpi := Pl.parseInt_text hn.esign hn.expd he
      rw [← hX2] at hpi
      obtain ⟨wv, hwv⟩ : ∃ wv, Pl.written n.esign n.exp = wv := ⟨_, rfl⟩
      rw [hwv] at hpi
      have htot : n.total = wv + sh := by rw [Pl.Num.total, HSH.out, hwv]
      rw [hX]
      clear hX
      have HX2 : Hid (X = n.esign ++ n.exp) := hX2
      have HWV : Hid (Pl.written n.esign n.exp = wv) := hwv
      have HTOT : Hid (n.total = wv + sh) := htot
      have HPI : Hid (Lib.parseIntB 64 X = if Pl.fits wv = true then .ok wv else .range) := hpi
      have hev3 : w3.cell? ⟨2, 0, none⟩ = some ev := by rw [hst2.bel.cell (p := ⟨2, 0, none⟩) hlt2]; exact hv
      clear HX hX2 hwv htot hpi
      go_upto_region 19 with fail
      go_cut [13, 14] from 19 to 71 (fun v13 v14 wx => ((v13 = .int .i64 wv ∧ v14 = .nilIface ∧ Pl.fits wv = true) ∨ (∃ z N, v13 = .int .i64 z ∧ v14 = .iface 86 (.pointer (some ⟨N, 0, none⟩)) ∧ Pl.fits wv = false)) ∧ St w wx sg D 0 [])
      case first =>
        cases hf : Pl.fits wv with
        | true =>
          have hp := HPI.out
          rw [hf, if_pos rfl] at hp
          have HP : Hid (Lib.parseIntB 64 X = .ok wv) := hp
          have HF : Hid (Pl.fits wv = true) := hf
          clear hp HPI hf
          go_wp2_with (go_at_call 42; refine (parseInt_ok _ wv _ (by omega) HP.out).mono ?_; rintro e w4 ⟨rfl, hb4⟩; have hst4 := hst2.step hb4; clear hb4)
          go_meet
          case rel => exact ⟨Or.inl ⟨rfl, rfl, HF.out⟩, hst4⟩
        | false =>
          have hp := HPI.out
          rw [hf, if_neg (by simp)] at hp
          have HP : Hid (Lib.parseIntB 64 X = .range) := hp
          have HF : Hid (Pl.fits wv = false) := hf
          clear hp HPI hf
          go_wp2_with (go_at_call 42; refine (parseInt_range _ ev _ (by omega) HP.out hev3 hev).mono ?_; rintro e w4 ⟨N, rfl, hb4⟩; have hst4 := hst2.step hb4; clear hb4)
          go_meet
          case rel => exact ⟨Or.inr ⟨_, _, rfl, rfl, HF.out⟩, hst4⟩
      case rest =>
      obtain ⟨hor, hst4⟩ := hcut
      clear c0 c1 c2 c3 d0 d1 d2 d3 hfr1 hfr0 hst2 hev3 HPI
      obtain ⟨⟨c0, c1, c2, c3⟩, ⟨d0, d1, d2, d3⟩, hfr1, hfr0⟩ := hst4.cells
      obtain ⟨nr, hnr⟩ : ∃ nr : Bool, (decide (-4611686018427387904 ≤ wv) && decide (wv ≤ 4611686018427387904)) = nr := ⟨_, rfl⟩
      have HNR : Hid ((decide (-4611686018427387904 ≤ wv) && decide (wv ≤ 4611686018427387904)) = nr) := hnr
      clear hnr
      go_upto_region 20 with fail
      go_cut [13, 81] from 72 to 81 (fun v13 t wx => t = .bool nr ∧ (nr = true → v13 = .int .i64 wv) ∧ St w wx sg D 0 [])
      case first =>
        rcases hor with ⟨rfl, rfl, hf⟩ | ⟨z, N, rfl, rfl, hf⟩
        · clear hf
          by_cases h1 : -4611686018427387904 ≤ wv
          · have H1 : Hid (decide (wv ≤ 4611686018427387904) = nr) := by
              have := HNR.out
              rw [decide_eq_true h1, Bool.true_and] at this
              exact this
            clear HNR
            go_wp2_with fail
            go_meet
            case rel => exact ⟨by rw [← H1.out], fun _ => rfl, hst4⟩
          · have H1 : Hid (nr = false) := by
              have := HNR.out
              rw [decide_eq_false h1, Bool.false_and] at this
              exact this.symm
            clear HNR
            go_wp2_with fail
            go_meet
            case rel => exact ⟨by rw [H1.out], fun _ => rfl, hst4⟩
        · have H1 : Hid (nr = false) := by
            show nr = false
            have h2 := Pl.fits_no hf
            rw [← HNR.out, Bool.and_eq_false_iff, decide_eq_false_iff_not, decide_eq_false_iff_not]
            omega
          clear HNR hf
          go_wp2_with fail
          go_meet
          case rel => exact ⟨by rw [H1.out], (fun h => by rw [H1.out] at h; cases h), hst4⟩
      case rest =>
      clear hor c0 c1 c2 c3 d0 d1 d2 d3 hfr1 hfr0 hst4
      obtain ⟨rfl, h13, hst4⟩ := hcut
      obtain ⟨⟨c0, c1, c2, c3⟩, ⟨d0, d1, d2, d3⟩, hfr1, hfr0⟩ := hst4.cells
      cases nr
      case true =>
        obtain rfl := h13 rfl
        have hnb := HNR.out
        simp only [Bool.and_eq_true, decide_eq_true_eq] at hnb
        have hn1 := hnb.1
        have hn2 := hnb.2
        have Hdec : Hid (n.dec = ⟨sg, D, wv + sh, []⟩) := by
          show n.dec = _
          rw [Pl.Num.dec, if_neg HdecN.out, HTOT.out, if_pos ((Pl.fits_iff _).2 (by omega)), hsg, HdecD.out]
        clear HNR hnb
        go_wp2_with fail
        rw [Hdec.out]
        refine bodyPost_ret (v := .agg #[.bool sg, .string ⟨D.toArray⟩, .int .i64 (wv + sh), .string ⟨#[]⟩]) (by simp [results, Tryd.results33, go_sem, d0, d1, d2, d3]) rfl ⟨rfl, ?_⟩
        exact ((((hst4.bel.setCell (by simp) _).setCell (Nat.le_refl _) _).setCell (Nat.le_refl _) _).setCell (Nat.le_refl _) _).setCell (Nat.le_refl _) _
      case false =>
        have hfar : wv < -4611686018427387904 ∨ 4611686018427387904 < wv := by
          have := HNR.out
          rw [Bool.and_eq_false_iff, decide_eq_false_iff_not, decide_eq_false_iff_not] at this
          omega
        clear h13 HNR
        obtain ⟨b, hb⟩ : ∃ b, decide (n.esign = [45]) = b := ⟨_, rfl⟩
        obtain ⟨V, hV⟩ : ∃ V, Pl.val n.exp = V := ⟨_, rfl⟩
        have hwvV : wv = if b = true then -(V : Int) else (V : Int) := by
          rw [← HWV.out, Pl.written, hV, ← hb]
          simp
        have hVb : 4611686018427387904 < V := by
          rw [hwvV] at hfar
          cases b <;> simp at hfar <;> omega
        have hkV : sh.natAbs < V := by omega
        have hngX : Lib.hasPrefix X [45] = b := by rw [hasPrefix_neg, HX2.out, Pl.Num.neg_exp hn he, hb]
        have htrim : Pl.strip (Lib.trimLeftS X [43, 45]) = Lib.decDigits V := by
          rw [HX2.out, Pl.Num.trim_exp hn, Pl.strip_dec hn.expd (by rw [hV]; omega), hV]
        have hVl : (Lib.decDigits V).length ≤ 2000000 := by
          have h1 := Pl.strip_dec hn.expd (by rw [hV]; omega)
          rw [hV] at h1
          rw [← h1]
          have h2 := Pl.strip_len n.exp
          have h3 : X.length = n.esign.length + n.exp.length := by rw [HX2.out, List.length_append]
          omega
        have HngX : Hid (Lib.hasPrefix X [45] = b) := hngX
        have Htrim : Hid (Pl.strip (Lib.trimLeftS X [43, 45]) = Lib.decDigits V) := htrim
        have HwvV : Hid (wv = if b = true then -(V : Int) else (V : Int)) := hwvV
        have hsum := far_sum b V sh hkV
        rw [← hwvV, ← HTOT.out] at hsum
        have HSUM : Hid (Pl.sum (Pl.txt b V) sh = Pl.itxt n.total) := hsum
        clear hwvV hngX htrim hb hV hfar hsum HWV hlens hlt0
        go_wp2_with (go_at_call 36; refine (Tryd.strings_HasPrefix _ _ _).mono ?_; rintro e w5 ⟨rfl, rfl⟩; rw [HngX.out])
        refine (trimSigns X _).mono ?_
        rintro e w6 ⟨rfl, hb6⟩
        have hst6 := hst4.step hb6
        clear hb6 c0 c1 c2 c3 d0 d1 d2 d3 hfr1 hfr0 hst4
        obtain ⟨⟨c0, c1, c2, c3⟩, ⟨d0, d1, d2, d3⟩, hfr1, hfr0⟩ := hst6.cells
        go_wp2_with fail
        refine (trimLeft0 _ _).mono ?_
        rintro e w7 ⟨rfl, rfl⟩
        rw [Htrim.out]
        go_upto_if 92 with fail
        have hadd45 := add_str [45] (Lib.decDigits V) (by simp; omega)
        go_cut [16] from 72 to 94 (fun v16 wx => v16 = .string ⟨(Pl.txt b V).toArray⟩ ∧ St w wx sg D 0 [])
        case first =>
          cases b
          · go_wp2_with fail
            go_meet
            case rel => exact ⟨by simp [Pl.txt], hst6⟩
          · go_wp2_with fail
            go_meet
            case rel => exact ⟨by simp [Pl.txt], hst6⟩
        case rest =>
        clear hadd45 c0 c1 c2 c3 d0 d1 d2 d3 hfr1 hfr0 hst6 HngX Htrim
        obtain ⟨rfl, hst6⟩ := hcut
        have hcan : Pl.Canon (Pl.txt b V) := Pl.txt_canon b (by omega)
        have htl : (Pl.txt b V).length ≤ 2097152 := by cases b <;> simp [Pl.txt] <;> omega
        have hkm : sh.natAbs < Pl.val (Pl.mag (Pl.txt b V)) := by rw [Pl.txt_mag, Pl.val_dec]; exact hkV
        obtain ⟨T, hT⟩ : ∃ T, Pl.itxt n.total = T := ⟨_, rfl⟩
        obtain ⟨Y, hY⟩ : ∃ Y, Pl.txt b V = Y := ⟨_, rfl⟩
        rw [hY] at hcan htl hkm ⊢
        have HSUM2 : Hid (Pl.sum Y sh = T) := by show Pl.sum Y sh = T; rw [← hY, ← hT]; exact HSUM.out
        have hTl : T.length ≤ 3000000 := by
          have h1 := Pl.sum_len hcan hkm
          rw [HSUM2.out] at h1
          omega
        have hpi := Pl.parseInt_itxt n.total
        rw [hT] at hpi
        have HPI : Hid (Lib.parseIntB 64 T = if Pl.fits n.total = true then .ok n.total else .range) := hpi
        have HT : Hid (Pl.itxt n.total = T) := hT
        clear hY HSUM hpi hT
        have hev6 : wc.cell? ⟨2, 0, none⟩ = some ev := by rw [hst6.bel.cell (p := ⟨2, 0, none⟩) hlt2]; exact hv
        go_wp2_with fail
        refine (add_any ⟨Y.toArray⟩ sh _ (by rw [size_mk]; exact htl) hcan (by omega) (by omega) hkm).mono ?_
        rintro e w8 ⟨rfl, hb8⟩
        rw [show Pl.sum (⟨Y.toArray⟩ : ByteArray).data.toList sh = T from HSUM2.out]
        have hst8 := hst6.step hb8
        have hev8 : w8.cell? ⟨2, 0, none⟩ = some ev := by rw [hst8.bel.cell (p := ⟨2, 0, none⟩) hlt2]; exact hv
        clear hb8 hev6 HSUM2 hcan htl hkm
        go_upto_region 28 with fail
        go_cut [17, 18] from 72 to 102 (fun v17 v18 wx => ((v17 = .int .i64 n.total ∧ v18 = .nilIface ∧ Pl.fits n.total = true) ∨ (∃ z N, v17 = .int .i64 z ∧ v18 = .iface 86 (.pointer (some ⟨N, 0, none⟩)) ∧ Pl.fits n.total = false)) ∧ St w wx sg D 0 [])
        case first =>
          cases hf : Pl.fits n.total with
          | true =>
            have hp := HPI.out
            rw [hf, if_pos rfl] at hp
            have HP : Hid (Lib.parseIntB 64 T = .ok n.total) := hp
            have HF : Hid (Pl.fits n.total = true) := hf
            clear hp HPI hf
            go_wp2_with (go_at_call 42; refine (parseInt_ok _ n.total _ (by omega) HP.out).mono ?_; rintro e w9 ⟨rfl, hb9⟩; have hst9 := hst8.step hb9; clear hb9)
            go_meet
            case rel => exact ⟨Or.inl ⟨rfl, rfl, HF.out⟩, hst9⟩
          | false =>
            have hp := HPI.out
            rw [hf, if_neg (by simp)] at hp
            have HP : Hid (Lib.parseIntB 64 T = .range) := hp
            have HF : Hid (Pl.fits n.total = false) := hf
            clear hp HPI hf
            go_wp2_with (go_at_call 42; refine (parseInt_range _ ev _ (by omega) HP.out hev8 hev).mono ?_; rintro e w9 ⟨N, rfl, hb9⟩; have hst9 := hst8.step hb9; clear hb9)
            go_meet
            case rel => exact ⟨Or.inr ⟨_, _, rfl, rfl, HF.out⟩, hst9⟩
        case rest =>
        obtain ⟨hor, hst9⟩ := hcut
        clear hst8 hev8 HPI
        obtain ⟨⟨c0, c1, c2, c3⟩, ⟨d0, d1, d2, d3⟩, hfr1, hfr0⟩ := hst9.cells
        rcases hor with ⟨rfl, rfl, hf⟩ | ⟨z, N, rfl, rfl, hf⟩
        · have Hdec : Hid (n.dec = ⟨sg, D, n.total, []⟩) := by
            show n.dec = _
            rw [Pl.Num.dec, if_neg HdecN.out, if_pos hf, hsg, HdecD.out]
          clear hf
          go_wp2_with fail
          rw [Hdec.out]
          refine bodyPost_ret (v := .agg #[.bool sg, .string ⟨D.toArray⟩, .int .i64 n.total, .string ⟨#[]⟩]) (by simp [results, Tryd.results33, go_sem, d0, d1, d2, d3]) rfl ⟨rfl, ?_⟩
          exact ((((hst9.bel.setCell (by simp) _).setCell (Nat.le_refl _) _).setCell (Nat.le_refl _) _).setCell (Nat.le_refl _) _).setCell (Nat.le_refl _) _
        · have Hdec : Hid (n.dec = ⟨sg, D, 0, T⟩) := by
            show n.dec = _
            rw [Pl.Num.dec, if_neg HdecN.out, if_neg (by rw [hf]; simp), hsg, HdecD.out, HT.out]
          clear hf
          go_wp2_with fail
          rw [Hdec.out]
          refine bodyPost_ret (v := .agg #[.bool sg, .string ⟨D.toArray⟩, .int .i64 0, .string ⟨T.toArray⟩]) (by simp [results, Tryd.results33, go_sem, d0, d1, d2, d3]) rfl ⟨rfl, ?_⟩
          exact ((((hst9.bel.setCell (by simp) _).setCell (Nat.le_refl _) _).setCell (Nat.le_refl _) _).setCell (Nat.le_refl _) _).setCell (Nat.le_refl _) _
end Go.Proofs.Qxb6602256aDoor
