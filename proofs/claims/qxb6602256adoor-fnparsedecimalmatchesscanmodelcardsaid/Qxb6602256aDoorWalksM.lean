/-
  zzModelParse.
-/
import Derived.Test.Qxb6602256aDoorWalksP
import Derived.Test.Qxb6602256aDoorWalksQ
import Derived.Test.Qxb6602256aDoorPlainM
import Derived.Deep.CutBlock
namespace Go.Proofs.Qxb6602256aDoor
open Go.RowKit

def cells (l : List UInt8) : List Value := l.map fun c => Value.int .u8 (c.toNat : Int)
theorem cells_len (l : List UInt8) : (cells l).length = l.length := by simp [cells]

theorem Tryd.info5 : (Tryd.prog.info? 5).map (fun i => (i.zero, i.size, i.bytes)) = some (some (.int .u8 0), 1, 1) := by kernel_rfl
theorem byte_at {s : ByteArray} {t : List UInt8} (hl : s.data.toList = t) {k : Nat} {c : UInt8} (h : t[k]? = some c) : ∃ hk : k < s.size, s[k] = c := by
  obtain ⟨h1, h2⟩ := List.getElem?_eq_some_iff.1 h
  subst hl
  exact ⟨by rw [size_list]; exact h1, h2⟩
theorem bne_byte {c d : UInt8} (h : c ≠ d) : ((c.toNat : Int) != (d.toNat : Int)) = true := by
  rw [bne_iff_ne]
  exact fun e => h (UInt8.toNat_inj.1 (by omega))
theorem beq_no {c d : UInt8} (h : c ≠ d) : ((c.toNat : Int) == (d.toNat : Int)) = false := by
  rw [beq_eq_false_iff_ne]
  exact fun e => h (UInt8.toNat_inj.1 (by omega))

/-- What the first loop has gathered. -/
def MR (n : Pl.Num) (w : World) (v7 v8 v9 v10 v11 v12 : Value) (wr : World) : Prop :=
  ∃ (p q : Nat) (B : Bool), p = n.k0 + q + (if B = true then 1 else 0) ∧ q ≤ n.all.length ∧ (B = false → q ≤ n.int.length) ∧ (B = true → n.int.length ≤ q ∧ n.frac ≠ []) ∧ v7 = .int .i64 (p : Int) ∧
    v9 = .int .i64 ((if B = true then n.int.length else q : Nat) : Int) ∧ v10 = .int .i64 ((q - (Pl.strip (n.all.take q)).length : Nat) : Int) ∧ v11 = .bool (!(Pl.strip (n.all.take q)).isEmpty) ∧ v12 = .bool B ∧
    wr.ownsRow w.heap.size 5 1 v8 (Pl.strip (n.all.take q)).length (cells (Pl.strip (n.all.take q))) ∧ Below w.heap.size w wr
/-- What it leaves. -/
def ME (n : Pl.Num) (w : World) (v7 v8 v9 v10 : Value) (wr : World) : Prop :=
  v7 = .int .i64 ((n.k0 + n.mant.length : Nat) : Int) ∧ v9 = .int .i64 (n.int.length : Int) ∧ v10 = .int .i64 ((n.all.length - n.sig.length : Nat) : Int) ∧
    wr.ownsRow w.heap.size 5 1 v8 n.sig.length (cells n.sig) ∧ Below w.heap.size w wr

theorem news_one (w : World) (x : Value) (t : TypeId) : ∀ j u, [x][j]? = some u → (w.alloc (.cells #[x] t)).cell? ((⟨w.heap.size, 0, none⟩ : Addr).add j) = some u := by
  intro j u hj
  match j, hj with
  | 0, hj =>
    simp at hj
    subst hj
    simp [Addr.add]
theorem one_u8 (z : Int) : ∀ u ∈ [Value.int .u8 z], u.oneCell' = true := fun u hu => by simp at hu; subst hu; rfl
theorem app_len {k : Nat} (h : k ≤ 1048576) : k + 1 ≤ maxLen ∧ (k + 1) * 1 ≤ 140737488355328 := by unfold maxLen; omega
theorem stripR_all : ∀ (k : Nat) (l : List UInt8), l.length = k → Pl.stripR l = [] → ∀ x ∈ l, x = 48 := by
  intro k
  induction k with
  | zero => intro l hl _ x hx; rw [List.length_eq_zero_iff.1 hl] at hx; simp at hx
  | succ k ih =>
    intro l hl he x hx
    have h0 : l ≠ [] := fun e => by rw [e] at hl; simp at hl
    obtain ⟨l', c, rfl⟩ : ∃ l' c, l = l' ++ [c] := ⟨l.dropLast, l.getLast h0, (List.dropLast_concat_getLast h0).symm⟩
    rw [Pl.stripR_snoc] at he
    split at he
    · rename_i hc
      rcases List.mem_append.1 hx with h1 | h1
      · exact ih l' (by simp at hl; omega) he x h1
      · simp at h1; rw [h1, hc]
    · simp at he
theorem stripR_ne {S : List UInt8} (h0 : S ≠ []) (hh : S.head? ≠ some 48) : Pl.stripR S ≠ [] := by
  intro e
  cases S with
  | nil => exact h0 rfl
  | cons c r => exact hh (by rw [stripR_all _ _ rfl e c (by simp)]; rfl)
theorem val_eq {k : IntKind} {a b : Int} (h : a = b) : Value.int k a = Value.int k b := by rw [h]
theorem own_base {w : World} {base g k : Nat} {v : Value} {xs : List Value} (h : w.ownsRow base 5 1 v k xs) (hg : v.ownBlock = some g) : base ≤ g := by
  rcases h.2 with ⟨rfl, _⟩ | ⟨g', cap, cur, rfl, hb, _⟩
  · cases hg
  · simp [Value.ownBlock] at hg
    omega
theorem own_snoc {w : World} {base : Nat} {v : Value} {S : List UInt8} {c : UInt8} (h : w.ownsRow base 5 1 v (S.length + 1) (cells S ++ [.int .u8 (c.toNat : Int)])) : w.ownsRow base 5 1 v (S ++ [c]).length (cells (S ++ [c])) := by
  have e : cells (S ++ [c]) = cells S ++ [.int .u8 (c.toNat : Int)] := by simp [cells]
  rw [e, List.length_append]
  exact h
theorem mr_next {n : Pl.Num} {w wr : World} {p q : Nat} {B : Bool} {v8 : Value} {z9 z10 : Int} {b11 : Bool} {c : UInt8} (hp : p = n.k0 + q + (if B = true then 1 else 0)) (hc : n.all[q]? = some c) (h0 : B = false → q < n.int.length) (h1 : B = true → n.int.length ≤ q ∧ n.frac ≠ [])
    (e9 : z9 = ((if B = true then n.int.length else q + 1 : Nat) : Int)) (e10 : z10 = ((q + 1 - (Pl.strip (n.all.take (q + 1))).length : Nat) : Int)) (e11 : b11 = !(Pl.strip (n.all.take (q + 1))).isEmpty)
    (hown : wr.ownsRow w.heap.size 5 1 v8 (Pl.strip (n.all.take (q + 1))).length (cells (Pl.strip (n.all.take (q + 1))))) (hb : Below w.heap.size w wr) :
    MR n w (.int .i64 ((p : Int) + 1)) v8 (.int .i64 z9) (.int .i64 z10) (.bool b11) (.bool B) wr := by
  have hlt := (List.getElem?_eq_some_iff.1 hc).1
  refine ⟨p + 1, q + 1, B, by omega, by omega, fun h => h0 h, fun h => ⟨by have := (h1 h).1; omega, (h1 h).2⟩, by simp, by rw [e9], by rw [e10], by rw [e11], rfl, hown, hb⟩
theorem mr_dot {n : Pl.Num} {w wr : World} {p q : Nat} {v8 : Value} (hp : p = n.k0 + q) (hq : q = n.int.length) (hf : n.frac ≠ []) (hql : q ≤ n.all.length)
    (hown : wr.ownsRow w.heap.size 5 1 v8 (Pl.strip (n.all.take q)).length (cells (Pl.strip (n.all.take q)))) (hb : Below w.heap.size w wr) :
    MR n w (.int .i64 ((p : Int) + 1)) v8 (.int .i64 (q : Int)) (.int .i64 ((q - (Pl.strip (n.all.take q)).length : Nat) : Int)) (.bool (!(Pl.strip (n.all.take q)).isEmpty)) (.bool true) wr :=
  ⟨p + 1, q, true, by simp; omega, hql, (fun h => by cases h), fun _ => ⟨by omega, hf⟩, by simp, by simp [hq], rfl, rfl, rfl, hown, hb⟩

set_option maxRecDepth 100000 in
set_option maxHeartbeats 1000000 in
theorem mparse_any (s : ByteArray) (n : Pl.Num) (hn : n.Ok) (hl : s.data.toList = n.text) (w : World) (hs : s.size ≤ 1048576) :
    Calls Tryd.prog 19 #[.string s] w fun e w' => e = .returned (.tuple #[.bool n.dec.neg, .string ⟨n.dec.digits.toArray⟩, .int .i64 n.dec.exp, .string ⟨n.dec.far.toArray⟩]) ∧ Below w.heap.size w w' := by
  have hs0 : 0 < s.size := by
    rw [size_list, hl]
    have h1 := Pl.Num.lens hn
    have h2 := List.length_pos_iff.2 hn.int0
    omega
  obtain ⟨sg, hsg⟩ : ∃ b, n.sign = b := ⟨_, rfl⟩
  have hneg := neg_byte hs0
  rw [hl, Pl.Num.neg_text hn, hsg] at hneg
  have HL : Hid (s.data.toList = n.text) := hl
  clear hl
  go_enter Tryd.func19, Tryd.ntmps19
  go_upto_if 28 with fail
  go_cut [6, 7] from 26 to 28 (fun v6 v7 wx => v6 = .bool sg ∧ v7 = .int .i64 n.k0 ∧ w = wx)
  case first =>
    cases sg
    · go_wp2_with fail
      go_meet
      case rel => exact ⟨rfl, by rw [Pl.Num.k0_eq, hsg]; rfl, rfl⟩
    · go_wp2_with fail
      go_meet
      case rel => exact ⟨rfl, by rw [Pl.Num.k0_eq, hsg]; rfl, rfl⟩
  case rest =>
  obtain ⟨rfl, rfl, rfl⟩ := hcut
  obtain ⟨i0, hi, hz0, hz1, hz2⟩ := info_parts Tryd.info5
  go_upto_block 0 with fail
  go_cut [7, 8, 9, 10, 11, 12, 13] from 26 to 64 (fun v7 v8 v9 v10 _ _ _ wx => ME n w v7 v8 v9 v10 wx)
  case first =>
    go_wp2_with fail
    go_loopw [7, 8, 9, 10, 11, 12] (fun v7 v8 v9 v10 v11 v12 wr => MR n w v7 v8 v9 v10 v11 v12 wr) (fun v7 _ _ _ _ _ _ => s.size - (intOf v7).toNat)
    case atStart => exact ⟨n.k0, 0, false, by simp, Nat.zero_le _, fun _ => Nat.zero_le _, (fun h => by cases h), rfl, rfl, rfl, rfl, rfl, World.ownsRow_nil _ _ _ _, Below.refl _ _⟩
    case round =>
      obtain ⟨p, q, B, hp, hq, hB0, hB1, rfl, rfl, rfl, rfl, rfl, hown, hbw⟩ := hrel
      have hcase : (∃ c, n.all[q]? = some c ∧ n.text[p]? = some c ∧ (B = false → q < n.int.length)) ∨ (B = false ∧ q = n.int.length ∧ n.frac ≠ [] ∧ n.text[p]? = some 46) ∨ (q = n.all.length ∧ p = n.k0 + n.mant.length ∧ (if B = true then n.int.length else q) = n.int.length) := by
        cases B
        · simp at hp
          have hq1 := hB0 rfl
          by_cases h1 : q < n.int.length
          · left
            have hA : q < n.all.length := by rw [Pl.Num.all_len]; omega
            exact ⟨n.all[q], List.getElem?_eq_getElem hA, by rw [hp, Pl.Num.at_int q h1, List.getElem?_eq_getElem hA], fun _ => h1⟩
          · have hq2 : q = n.int.length := by omega
            by_cases hf : n.frac = []
            · right; right
              have hm := Pl.Num.mant_len n
              rw [if_pos hf] at hm
              have ha := Pl.Num.all_len n
              rw [hf] at ha
              exact ⟨by simp at ha; omega, by omega, by simpa using hq2⟩
            · right; left
              exact ⟨rfl, hq2, hf, by rw [hp, hq2]; exact Pl.Num.at_dot hf⟩
        · simp at hp
          obtain ⟨hq1, hf⟩ := hB1 rfl
          by_cases h1 : q < n.all.length
          · left
            exact ⟨n.all[q], List.getElem?_eq_getElem h1, by rw [hp, Nat.add_assoc, Pl.Num.at_frac q hf hq1 h1, List.getElem?_eq_getElem h1], (fun h => by cases h)⟩
          · right; right
            have hm := Pl.Num.mant_len n
            rw [if_neg hf] at hm
            exact ⟨by omega, by omega, rfl⟩
      rcases hcase with ⟨c, hc, htx, hBq⟩ | ⟨rfl, hqi, hf, htx⟩ | ⟨hqa, hpe, hbe⟩
      · obtain ⟨hps, hpc⟩ := byte_at HL.out htx
        have hcd := Pl.Num.all_digits hn c (List.mem_of_getElem? hc)
        have hb1 : ((s[p].toNat : Int) != 101) = true := by rw [hpc]; exact bne_byte (d := 101) (Pl.digit_ne hcd (by decide))
        have hb2 : ((s[p].toNat : Int) != 69) = true := by rw [hpc]; exact bne_byte (d := 69) (Pl.digit_ne hcd (by decide))
        have hb3 : ((s[p].toNat : Int) == 46) = false := by rw [hpc]; exact beq_no (d := 46) (Pl.digit_ne hcd (by decide))
        have hSq := Pl.strip_take n.all q c hc
        have hsz : s.size ≤ 1048576 := hs
        obtain ⟨ld, hld⟩ : ∃ ld, q - (Pl.strip (n.all.take q)).length = ld := ⟨_, rfl⟩
        obtain ⟨S, hS⟩ : ∃ S, Pl.strip (n.all.take q) = S := ⟨_, rfl⟩
        have hSl : S.length ≤ q := by rw [← hS]; have := Pl.strip_len (n.all.take q); rw [List.length_take] at this; omega
        rw [hS] at hown hSq hld ⊢
        rw [hld]
        have HLD : Hid (q - S.length = ld) := hld
        have HP : Hid (p = n.k0 + q + (if B = true then 1 else 0)) := hp
        have HC : Hid (n.all[q]? = some c) := hc
        have HB0 : Hid (B = false → q < n.int.length) := hBq
        have HB1 : Hid (B = true → n.int.length ≤ q ∧ n.frac ≠ []) := hB1
        have hldb : ld ≤ q := by omega
        have HPC : Hid (s[p] = c) := hpc
        have hSb : S.length ≤ 1048576 := by
          have h1 := HC.out
          have h2 := (List.getElem?_eq_some_iff.1 h1).1
          have h3 := (Pl.Num.lens hn).1
          rw [← Pl.Num.all_len, ← HL.out, ← size_list] at h3
          omega
        have hqb : q ≤ 1048576 := by
          have h1 := HC.out
          have h2 := (List.getElem?_eq_some_iff.1 h1).1
          have h3 := (Pl.Num.lens hn).1
          rw [← Pl.Num.all_len, ← HL.out, ← size_list] at h3
          omega
        clear hld hp hc hBq hB1 hB0 hS hpc htx hq
        by_cases hS0 : S = []
        · subst hS0
          rw [show (!([] : List UInt8).isEmpty) = false from rfl]
          rw [if_pos rfl] at hSq
          by_cases hc48 : c = 48
          · have hb4 : ((s[p].toNat : Int) != 48) = false := by rw [HPC.out, hc48]; rfl
            rw [if_pos hc48] at hSq
            have HSQ : Hid (Pl.strip (n.all.take (q + 1)) = []) := hSq
            clear hSq hc48
            cases B
            · rw [if_neg (by simp)]
              go_wp2_with fail
              go_roundw
              case rel => exact mr_next HP.out HC.out HB0.out HB1.out (by simp) (by rw [HSQ.out]; have := HLD.out; simp at this ⊢; omega) (by rw [HSQ.out]; rfl) (by rw [HSQ.out]; exact hown) hbw
              case measure => simp [intOf]; omega
            · rw [if_pos rfl]
              go_wp2_with fail
              go_roundw
              case rel => exact mr_next HP.out HC.out HB0.out HB1.out (by simp) (by rw [HSQ.out]; have := HLD.out; simp at this ⊢; omega) (by rw [HSQ.out]; rfl) (by rw [HSQ.out]; exact hown) hbw
              case measure => simp [intOf]; omega
          · have hb4 : ((s[p].toNat : Int) != 48) = true := by rw [HPC.out]; exact bne_byte (d := 48) hc48
            rw [if_neg hc48] at hSq
            have HSQ : Hid (Pl.strip (n.all.take (q + 1)) = [c]) := hSq
            clear hSq hc48
            cases B
            · rw [if_neg (by simp)]
              go_wp2_with (at_builtin; refine wpList_append_own _ rfl _ _ 40 rfl w.heap.size 5 i0 (.int .u8 0) 1 1 Tryd.underlying40 hi hz0 hz1 hz2 rfl (by decide) _ _ _ rfl (hown.alloc _) ⟨wr.heap.size, 0, none⟩ 1 1 [.int .u8 s[p].toNat] rfl rfl (by exact news_one _ _ _) (by exact one_u8 _) (app_len (by simp : ([] : List UInt8).length ≤ 1048576)).1 (app_len (by simp : ([] : List UInt8).length ≤ 1048576)).2 (by have := hbw.size; simp; omega) ?_; intro v' w1 hown1 hgrow _)
              have hbw1 : Below w.heap.size w w1 := (hbw.alloc hbw.size _).grown hgrow (by have := hbw.size; simp; omega) (fun g hg => own_base hown hg)
              rw [HPC.out] at hown1
              have hown2 := own_snoc hown1
              clear hgrow hown1 hown hbw
              go_wp2_with fail
              go_roundw
              case rel => exact mr_next HP.out HC.out HB0.out HB1.out (by simp) (by rw [HSQ.out]; have := HLD.out; simp at this ⊢; omega) (by rw [HSQ.out]; simp) (by rw [HSQ.out]; exact hown2) hbw1
              case measure => simp [intOf]; omega
            · rw [if_pos rfl]
              go_wp2_with (at_builtin; refine wpList_append_own _ rfl _ _ 40 rfl w.heap.size 5 i0 (.int .u8 0) 1 1 Tryd.underlying40 hi hz0 hz1 hz2 rfl (by decide) _ _ _ rfl (hown.alloc _) ⟨wr.heap.size, 0, none⟩ 1 1 [.int .u8 s[p].toNat] rfl rfl (by exact news_one _ _ _) (by exact one_u8 _) (app_len (by simp : ([] : List UInt8).length ≤ 1048576)).1 (app_len (by simp : ([] : List UInt8).length ≤ 1048576)).2 (by have := hbw.size; simp; omega) ?_; intro v' w1 hown1 hgrow _)
              have hbw1 : Below w.heap.size w w1 := (hbw.alloc hbw.size _).grown hgrow (by have := hbw.size; simp; omega) (fun g hg => own_base hown hg)
              rw [HPC.out] at hown1
              have hown2 := own_snoc hown1
              clear hgrow hown1 hown hbw
              go_wp2_with fail
              go_roundw
              case rel => exact mr_next HP.out HC.out HB0.out HB1.out (by simp) (by rw [HSQ.out]; have := HLD.out; simp at this ⊢; omega) (by rw [HSQ.out]; simp) (by rw [HSQ.out]; exact hown2) hbw1
              case measure => simp [intOf]; omega
        · rw [if_neg hS0] at hSq
          have HSQ : Hid (Pl.strip (n.all.take (q + 1)) = S ++ [c]) := hSq
          have hSe : S.isEmpty = false := by simpa using hS0
          rw [show (!S.isEmpty) = true by rw [hSe]; rfl]
          clear hSq hS0 hSe
          obtain ⟨b4, hb4⟩ : ∃ b4 : Bool, ((s[p].toNat : Int) != 48) = b4 := ⟨_, rfl⟩
          cases b4
          · cases B
            · rw [if_neg (by simp)]
              go_wp2_with (at_builtin; refine wpList_append_own _ rfl _ _ 40 rfl w.heap.size 5 i0 (.int .u8 0) 1 1 Tryd.underlying40 hi hz0 hz1 hz2 rfl (by decide) _ _ _ rfl (hown.alloc _) ⟨wr.heap.size, 0, none⟩ 1 1 [.int .u8 s[p].toNat] rfl rfl (by exact news_one _ _ _) (by exact one_u8 _) (app_len hSb).1 (app_len hSb).2 (by have := hbw.size; simp; omega) ?_; intro v' w1 hown1 hgrow _)
              have hbw1 : Below w.heap.size w w1 := (hbw.alloc hbw.size _).grown hgrow (by have := hbw.size; simp; omega) (fun g hg => own_base hown hg)
              rw [HPC.out] at hown1
              have hown2 := own_snoc hown1
              clear hgrow hown1 hown hbw
              go_wp2_with fail
              go_roundw
              case rel => exact mr_next HP.out HC.out HB0.out HB1.out (by simp) (by rw [HSQ.out]; have := HLD.out; simp at this ⊢; omega) (by rw [HSQ.out]; simp) (by rw [HSQ.out]; exact hown2) hbw1
              case measure => simp [intOf]; omega
            · rw [if_pos rfl]
              go_wp2_with (at_builtin; refine wpList_append_own _ rfl _ _ 40 rfl w.heap.size 5 i0 (.int .u8 0) 1 1 Tryd.underlying40 hi hz0 hz1 hz2 rfl (by decide) _ _ _ rfl (hown.alloc _) ⟨wr.heap.size, 0, none⟩ 1 1 [.int .u8 s[p].toNat] rfl rfl (by exact news_one _ _ _) (by exact one_u8 _) (app_len hSb).1 (app_len hSb).2 (by have := hbw.size; simp; omega) ?_; intro v' w1 hown1 hgrow _)
              have hbw1 : Below w.heap.size w w1 := (hbw.alloc hbw.size _).grown hgrow (by have := hbw.size; simp; omega) (fun g hg => own_base hown hg)
              rw [HPC.out] at hown1
              have hown2 := own_snoc hown1
              clear hgrow hown1 hown hbw
              go_wp2_with fail
              go_roundw
              case rel => exact mr_next HP.out HC.out HB0.out HB1.out (by simp) (by rw [HSQ.out]; have := HLD.out; simp at this ⊢; omega) (by rw [HSQ.out]; simp) (by rw [HSQ.out]; exact hown2) hbw1
              case measure => simp [intOf]; omega
          · cases B
            · rw [if_neg (by simp)]
              go_wp2_with (at_builtin; refine wpList_append_own _ rfl _ _ 40 rfl w.heap.size 5 i0 (.int .u8 0) 1 1 Tryd.underlying40 hi hz0 hz1 hz2 rfl (by decide) _ _ _ rfl (hown.alloc _) ⟨wr.heap.size, 0, none⟩ 1 1 [.int .u8 s[p].toNat] rfl rfl (by exact news_one _ _ _) (by exact one_u8 _) (app_len hSb).1 (app_len hSb).2 (by have := hbw.size; simp; omega) ?_; intro v' w1 hown1 hgrow _)
              have hbw1 : Below w.heap.size w w1 := (hbw.alloc hbw.size _).grown hgrow (by have := hbw.size; simp; omega) (fun g hg => own_base hown hg)
              rw [HPC.out] at hown1
              have hown2 := own_snoc hown1
              clear hgrow hown1 hown hbw
              go_wp2_with fail
              go_roundw
              case rel => exact mr_next HP.out HC.out HB0.out HB1.out (by simp) (by rw [HSQ.out]; have := HLD.out; simp at this ⊢; omega) (by rw [HSQ.out]; simp) (by rw [HSQ.out]; exact hown2) hbw1
              case measure => simp [intOf]; omega
            · rw [if_pos rfl]
              go_wp2_with (at_builtin; refine wpList_append_own _ rfl _ _ 40 rfl w.heap.size 5 i0 (.int .u8 0) 1 1 Tryd.underlying40 hi hz0 hz1 hz2 rfl (by decide) _ _ _ rfl (hown.alloc _) ⟨wr.heap.size, 0, none⟩ 1 1 [.int .u8 s[p].toNat] rfl rfl (by exact news_one _ _ _) (by exact one_u8 _) (app_len hSb).1 (app_len hSb).2 (by have := hbw.size; simp; omega) ?_; intro v' w1 hown1 hgrow _)
              have hbw1 : Below w.heap.size w w1 := (hbw.alloc hbw.size _).grown hgrow (by have := hbw.size; simp; omega) (fun g hg => own_base hown hg)
              rw [HPC.out] at hown1
              have hown2 := own_snoc hown1
              clear hgrow hown1 hown hbw
              go_wp2_with fail
              go_roundw
              case rel => exact mr_next HP.out HC.out HB0.out HB1.out (by simp) (by rw [HSQ.out]; have := HLD.out; simp at this ⊢; omega) (by rw [HSQ.out]; simp) (by rw [HSQ.out]; exact hown2) hbw1
              case measure => simp [intOf]; omega
      · obtain ⟨hps, hpc⟩ := byte_at HL.out htx
        have hb1 : ((s[p].toNat : Int) != 101) = true := by rw [hpc]; rfl
        have hb2 : ((s[p].toNat : Int) != 69) = true := by rw [hpc]; rfl
        have hb3 : ((s[p].toNat : Int) == 46) = true := by rw [hpc]; rfl
        simp at hp
        rw [if_neg (by simp)]
        have HP : Hid (p = n.k0 + q) := hp
        have HQ : Hid (q = n.int.length) := hqi
        have HF : Hid (n.frac ≠ []) := hf
        clear hp hqi hf htx hB0 hB1 hpc
        obtain ⟨ld, hld⟩ : ∃ ld, q - (Pl.strip (n.all.take q)).length = ld := ⟨_, rfl⟩
        obtain ⟨sn, hsn⟩ : ∃ sn, (!(Pl.strip (n.all.take q)).isEmpty) = sn := ⟨_, rfl⟩
        rw [hld, hsn]
        have HLD : Hid (q - (Pl.strip (n.all.take q)).length = ld) := hld
        have HSN : Hid ((!(Pl.strip (n.all.take q)).isEmpty) = sn) := hsn
        clear hld hsn
        go_wp2_with fail
        go_roundw
        case rel => rw [← HLD.out, ← HSN.out]; exact mr_dot HP.out HQ.out HF.out hq hown hbw
        case measure => simp [intOf]; omega
      · rw [hbe]
        have hsig : Pl.strip (n.all.take q) = n.sig := by rw [hqa, List.take_length]; rfl
        rw [hsig] at hown ⊢
        have HME : Hid (ME n w (.int .i64 (p : Int)) u8 (.int .i64 (n.int.length : Int)) (.int .i64 ((q - n.sig.length : Nat) : Int)) wr) := ⟨by rw [hpe], rfl, by rw [hqa], hown, hbw⟩
        have hend := Pl.Num.at_end (n := n)
        have hlen := Pl.Num.text_len n
        rw [← hpe] at hend
        have hsz : s.size = n.k0 + (n.mant.length + n.expText.length) := by rw [size_list, HL.out]; exact hlen
        obtain ⟨ld, hld⟩ : ∃ ld, q - n.sig.length = ld := ⟨_, rfl⟩
        obtain ⟨sn, hsn⟩ : ∃ sn, (!n.sig.isEmpty) = sn := ⟨_, rfl⟩
        rw [hld] at HME ⊢
        rw [hsn]
        clear hlen hld hsn hp hq hB0 hB1 hqa hbe hsig hown hbw
        by_cases he : n.exp = []
        · have hex : n.expText = [] := by unfold Pl.Num.expText; rw [if_pos he]
          have hps : ¬ p < s.size := by rw [hex] at hsz; simp at hsz; omega
          clear hsz hend hex hpe
          go_wp2_with fail
          go_meet
          case rel => exact HME.out
        · have hex : n.expText.head? = some n.mark := by unfold Pl.Num.expText; rw [if_neg he]; rfl
          rw [hex] at hend
          obtain ⟨hps, hpc⟩ := byte_at HL.out hend
          clear hsz hend hex hpe
          rcases hn.mark with hm | hm
          · have hb1 : ((s[p].toNat : Int) != 101) = false := by rw [hpc, hm]; rfl
            clear hpc hm
            go_wp2_with fail
            go_meet
            case rel => exact HME.out
          · have hb1 : ((s[p].toNat : Int) != 101) = true := by rw [hpc, hm]; rfl
            have hb2 : ((s[p].toNat : Int) != 69) = false := by rw [hpc, hm]; rfl
            clear hpc hm
            go_wp2_with fail
            go_meet
            case rel => exact HME.out
  case rest =>
  obtain ⟨rfl, rfl, rfl, hown, hbw⟩ := hcut
  clear hi hz0 hz1 hz2 hneg hs0
  obtain ⟨I, hI⟩ : ∃ I, n.int.length = I := ⟨_, rfl⟩
  obtain ⟨ld, hld⟩ : ∃ ld, n.all.length - n.sig.length = ld := ⟨_, rfl⟩
  obtain ⟨kE, hkE⟩ : ∃ kE, n.k0 + n.mant.length = kE := ⟨_, rfl⟩
  rw [hI, hld, hkE]
  have hshift : (I : Int) - (ld : Int) = n.shift := by
    have h1 := Pl.Num.sig_len n
    rw [← hI, ← hld]
    unfold Pl.Num.shift
    omega
  have hlens := Pl.Num.lens hn
  have hLs : n.text.length ≤ 1048576 := by rw [← HL.out, ← size_list]; exact hs
  have hIb : I ≤ 1048576 := by omega
  have hldb : ld ≤ 1048576 := by have := Pl.Num.all_len n; omega
  have hSb : n.sig.length ≤ 1048576 := by have h1 := Pl.Num.sig_len n; have := Pl.Num.all_len n; omega
  obtain ⟨S, hS⟩ : ∃ S, n.sig = S := ⟨_, rfl⟩
  obtain ⟨D, hD⟩ : ∃ D, n.digits = D := ⟨_, rfl⟩
  have hDe : Pl.stripR S = D := by rw [← hS, ← hD]; rfl
  have hSh : S.head? ≠ some 48 := by rw [← hS]; exact Pl.strip_head _
  rw [hS] at hown hSb
  have HSH : Hid ((I : Int) - (ld : Int) = n.shift) := hshift
  have HKE : Hid (n.k0 + n.mant.length = kE) := hkE
  have HDE : Hid (Pl.stripR S = D) := hDe
  have HDD : Hid (n.digits = D) := hD
  clear hI hld hkE hshift hS hD hDe hlens hLs
  by_cases hS0 : S = []
  case pos =>
    have Hdec : Hid (n.dec = ⟨false, [], 0, []⟩) := by
      show n.dec = _
      rw [Pl.Num.dec, if_pos]
      rw [HDD.out, ← HDE.out, hS0]; rfl
    subst hS0
    rcases hown.2 with ⟨rfl, _⟩ | ⟨g, cap, cur, rfl, _⟩
    · go_wp2_with fail
      refine wp_loop_rounds 1 ?_
      rw [rounds_succ]
      go_wp2_with fail
      rw [Hdec.out]
      refine bodyPost_ret (v := .tuple #[.bool false, .string ⟨#[]⟩, .int .i64 0, .string ⟨#[]⟩]) (by simp [results, Tryd.results19, go_sem]) rfl ⟨rfl, hbw⟩
    · go_wp2_with fail
      refine wp_loop_rounds 1 ?_
      rw [rounds_succ]
      go_wp2_with fail
      rw [Hdec.out]
      refine bodyPost_ret (v := .tuple #[.bool false, .string ⟨#[]⟩, .int .i64 0, .string ⟨#[]⟩]) (by simp [results, Tryd.results19, go_sem]) rfl ⟨rfl, hbw⟩
  case neg =>
  have hSp : 0 < S.length := List.length_pos_iff.2 hS0
  obtain ⟨g, cap, rfl⟩ : ∃ g cap, u8 = .slice (some ⟨g, 0, none⟩) S.length cap := by
    rcases hown.2 with ⟨_, h⟩ | ⟨g, cap, cur, h, _⟩
    · omega
    · exact ⟨g, cap, h⟩
  have hcells : ∀ j c, S[j]? = some c → wc.cell? ⟨g, j, none⟩ = some (.int .u8 (c.toNat : Int)) := fun j c hj => by
    have hlt := (List.getElem?_eq_some_iff.1 hj).1
    rw [hown.cellAt j (by omega)]
    simp [cells, hj]
  have hcap : S.length ≤ cap := by
    rcases hown.2 with ⟨_, h⟩ | ⟨g', cap', cur, h, _, _, h5, _⟩
    · omega
    · simp at h
      omega
  have HCELL : Hid (∀ j c, S[j]? = some c → wc.cell? ⟨g, j, none⟩ = some (.int .u8 (c.toNat : Int))) := hcells
  have hD0 : D ≠ [] := by
    rw [← HDE.out]
    exact stripR_ne hS0 hSh
  clear hcells hown
  go_upto_block 2 with fail
  go_cut [14] from 65 to 78 (fun v14 wx => v14 = .int .i64 (D.length : Int) ∧ D = S.take D.length ∧ D.length ≤ S.length ∧ wc = wx)
  case first =>
    go_wp2_with fail
    go_loop [14] (fun v => ∃ e : Nat, e ≤ S.length ∧ v = .int .i64 (e : Int) ∧ Pl.stripR (S.take e) = D) (fun v => (intOf v).toNat)
    case atStart => exact ⟨S.length, Nat.le_refl _, rfl, by rw [List.take_length]; exact HDE.out⟩
    case round =>
      obtain ⟨e, he, rfl, hst⟩ := hrel
      cases e with
      | zero => exact absurd hst.symm hD0
      | succ e =>
        obtain ⟨c, hc⟩ := get_some S e (by omega)
        have hcell := HCELL.out e c hc
        by_cases hc48 : c = 48
        · have hb : ((c.toNat : Int) == 48) = true := by rw [hc48]; rfl
          have HST : Hid (Pl.stripR (S.take e) = D) := by
            show Pl.stripR (S.take e) = D
            rw [← Pl.stripR_step S e (by rw [hc, hc48])]; exact hst
          clear hst hc hc48
          go_wp2_with fail
          go_round
          case rel => exact ⟨e, by omega, by go_num, HST.out⟩
          case measure => simp [intOf]
        · have hb : ((c.toNat : Int) == 48) = false := beq_no (d := 48) hc48
          have HST : Hid (S.take (e + 1) = D) := by
            show S.take (e + 1) = D
            rw [← Pl.stripR_stop S e c hc hc48]; exact hst
          have HLE : Hid (D.length = e + 1) := by show D.length = e + 1; rw [← HST.out, List.length_take]; omega
          clear hst hc hc48
          go_wp2_with fail
          go_meet
          case rel => exact ⟨by rw [HLE.out]; go_num, by rw [HLE.out]; exact HST.out.symm, by rw [HLE.out]; exact he, rfl⟩
  case rest =>
  obtain ⟨rfl, hDt, hDl, rfl⟩ := hcut
  have hDp : 0 < D.length := List.length_pos_iff.2 hD0
  have hDz : ((D.length : Int) == 0) = false := by rw [beq_eq_false_iff_ne]; omega
  have hstr : (convert 40 9 (.slice (some ⟨g, 0, none⟩) D.length cap)).run Tryd.prog wc = .ok (.string ⟨D.toArray⟩) wc := by
    refine run_convert_bytes_back wc 40 9 5 ⟨g, 0, none⟩ cap D Tryd.underlying40 Tryd.underlying5 Tryd.underlying9 (fun j hj => ?_)
    have e : (⟨g, 0, none⟩ : Addr).add j = ⟨g, j, none⟩ := by
      unfold Addr.add
      by_cases h0 : j = 0 <;> simp [h0]
    rw [e]
    refine HCELL.out j D[j] ?_
    have h1 : D[j]? = some D[j] := List.getElem?_eq_getElem hj
    have h3 : D[j]? = (S.take D.length)[j]? := congrArg (fun x => x[j]?) hDt
    rw [List.getElem?_take, if_pos hj] at h3
    rw [← h3]
    exact h1
  have HDN : Hid (n.digits ≠ []) := by show n.digits ≠ []; rw [HDD.out]; exact hD0
  clear HCELL hDt hS0 hSh hD0 HDE
  go_upto_if 91 with fail
  rw [HSH.out]
  obtain ⟨sh, hsh⟩ : ∃ sh, n.shift = sh := ⟨_, rfl⟩
  have hshb := n.shift_le
  have hlens := Pl.Num.lens hn
  have hLs : n.text.length ≤ 1048576 := by rw [← HL.out, ← size_list]; exact hs
  rw [hsh] at hshb ⊢
  have hsh1 : -2000000 ≤ sh := by omega
  have hsh2 : sh ≤ 2000000 := by omega
  have HSS : Hid (n.shift = sh) := hsh
  clear hsh hshb HSH hstr hDz
  have hsz : s.size = n.k0 + (n.mant.length + n.expText.length) := by rw [size_list, HL.out]; exact Pl.Num.text_len n
  by_cases he : n.exp = []
  case pos =>
    have hex : n.expText = [] := by unfold Pl.Num.expText; rw [if_pos he]
    have hge : decide (s.size ≤ kE) = true := by
      have := HKE.out
      rw [hex] at hsz
      simp at hsz ⊢
      omega
    have Hdec : Hid (n.dec = ⟨sg, D, sh, []⟩) := by
      show n.dec = _
      have ht : n.total = sh := by rw [Pl.Num.total, HSS.out, he]; simp [Pl.written, Pl.val]
      rw [Pl.Num.dec, if_neg HDN.out, ht, if_pos ((Pl.fits_iff _).2 (by omega)), hsg, HDD.out]
    clear hsz hex hlens hLs
    rw [hge]
    go_wp2_with fail
    rw [Hdec.out]
    refine bodyPost_ret (v := .tuple #[.bool sg, .string ⟨D.toArray⟩, .int .i64 sh, .string ⟨#[]⟩]) (by simp [results, Tryd.results19, go_sem]) rfl ⟨rfl, hbw⟩
  case neg =>
  obtain ⟨k1, hk1⟩ : ∃ k1, kE + 1 = k1 := ⟨_, rfl⟩
  have hdrop : n.text.drop k1 = n.esign ++ n.exp := by rw [← hk1, ← HKE.out]; exact Pl.Num.drop_exp he
  have hszk : s.size = k1 + (n.esign.length + n.exp.length) := by
    have h1 : n.expText.length = 1 + (n.esign.length + n.exp.length) := by unfold Pl.Num.expText; rw [if_neg he]; simp; omega
    rw [h1] at hsz
    have := HKE.out
    omega
  have hEp : 0 < n.exp.length := List.length_pos_iff.2 he
  have hge : decide (s.size ≤ kE) = false := by simp; omega
  have htx : ∀ j, n.text[k1 + j]? = (n.esign ++ n.exp)[j]? := fun j => by rw [← hdrop, List.getElem?_drop]
  have HTX : Hid (∀ j, n.text[k1 + j]? = (n.esign ++ n.exp)[j]?) := htx
  have HSZ : Hid (s.size = k1 + (n.esign.length + n.exp.length)) := hszk
  have HE : Hid (n.exp ≠ []) := he
  have hk1s : k1 < s.size := by omega
  have hkk : (kE : Int) + 1 = (k1 : Int) := by omega
  rw [hge]
  obtain ⟨b, hb⟩ : ∃ b, decide (n.esign = [45]) = b := ⟨_, rfl⟩
  have HB : Hid (decide (n.esign = [45]) = b) := hb
  clear hsz hdrop hszk htx hk1 hge hb he hlens hLs
  go_upto_if 100 with fail
  go_cut [7, 17] from 81 to 108 (fun v7 v17 wx => v7 = .int .i64 ((k1 + n.esign.length : Nat) : Int) ∧ v17 = .bool b ∧ wc = wx)
  case first =>
    rcases hn.esign with e | e | e
    · obtain ⟨c, hc⟩ := get_some n.exp 0 hEp
      have h0 := HTX.out 0
      rw [e, List.nil_append, hc, Nat.add_zero] at h0
      obtain ⟨hp, hpc⟩ := byte_at HL.out h0
      have hcd := hn.expd c (List.mem_of_getElem? hc)
      have hb1 : ((s[k1].toNat : Int) == 43) = false := by rw [hpc]; exact beq_no (d := 43) (Pl.digit_ne hcd (by decide))
      have hb2 : ((s[k1].toNat : Int) == 45) = false := by rw [hpc]; exact beq_no (d := 45) (Pl.digit_ne hcd (by decide))
      have H1 : Hid (b = false) := by show b = false; rw [← HB.out, e]; rfl
      have H2 : Hid (k1 + n.esign.length = k1) := by show k1 + n.esign.length = k1; rw [e]; rfl
      clear hc h0 hpc hcd e
      rw [hb1]
      go_wp2_with fail
      go_meet
      case rel => exact ⟨by rw [H2.out], by rw [H1.out], rfl⟩
    · have h0 := HTX.out 0
      rw [e, Nat.add_zero] at h0
      obtain ⟨hp, hpc⟩ := byte_at HL.out (c := 43) h0
      have hb1 : ((s[k1].toNat : Int) == 43) = true := by rw [hpc]; rfl
      have H1 : Hid (b = false) := by show b = false; rw [← HB.out, e]; rfl
      have H2 : Hid (k1 + n.esign.length = k1 + 1) := by show k1 + n.esign.length = k1 + 1; rw [e]; rfl
      clear h0 hpc e
      rw [hb1]
      go_wp2_with fail
      go_meet
      case rel => exact ⟨by rw [H2.out]; go_num, by rw [H1.out], rfl⟩
    · have h0 := HTX.out 0
      rw [e, Nat.add_zero] at h0
      obtain ⟨hp, hpc⟩ := byte_at HL.out (c := 45) h0
      have hb1 : ((s[k1].toNat : Int) == 43) = false := by rw [hpc]; rfl
      have hb2 : ((s[k1].toNat : Int) == 45) = true := by rw [hpc]; rfl
      have H1 : Hid (b = true) := by show b = true; rw [← HB.out, e]; rfl
      have H2 : Hid (k1 + n.esign.length = k1 + 1) := by show k1 + n.esign.length = k1 + 1; rw [e]; rfl
      clear h0 hpc e
      rw [hb1]
      go_wp2_with fail
      go_meet
      case rel => exact ⟨by rw [H2.out]; go_num, by rw [H1.out], rfl⟩
  case rest =>
  obtain ⟨rfl, rfl, rfl⟩ := hcut
  obtain ⟨E, hE⟩ : ∃ E, n.exp = E := ⟨_, rfl⟩
  obtain ⟨k2, hk2⟩ : ∃ k2, k1 + n.esign.length = k2 := ⟨_, rfl⟩
  have htx2 : ∀ j, n.text[k2 + j]? = E[j]? := fun j => by
    have := HTX.out (n.esign.length + j)
    rw [List.getElem?_append_right (by omega), hE] at this
    rw [← hk2, Nat.add_assoc, this]
    congr 1
    omega
  have hsz2 : s.size = k2 + E.length := by have := HSZ.out; rw [hE] at this; omega
  have hEd : Pl.AllD E := by rw [← hE]; exact hn.expd
  rw [hE] at hEp
  have HTX2 : Hid (∀ j, n.text[k2 + j]? = E[j]?) := htx2
  have HSZ2 : Hid (s.size = k2 + E.length) := hsz2
  have HEE : Hid (n.exp = E) := hE
  have hEs : E.length ≤ s.size := by omega
  rw [hk2]
  clear htx2 hsz2 hE hk2 HTX HSZ hk1s hkk
  go_upto_block 4 with fail
  go_cut [7] from 81 to 121 (fun v7 wx => (∃ p j : Nat, p = k2 + j ∧ j < E.length ∧ v7 = .int .i64 (p : Int) ∧ Pl.strip (E.drop j) = Pl.strip E ∧ (j + 1 = E.length ∨ ∃ c, E[j]? = some c ∧ c ≠ 48)) ∧ wc = wx)
  case first =>
    go_wp2_with fail
    go_loop [7] (fun v => ∃ p j : Nat, p = k2 + j ∧ j < E.length ∧ v = .int .i64 (p : Int) ∧ Pl.strip (E.drop j) = Pl.strip E) (fun v => s.size - (intOf v).toNat)
    case atStart => exact ⟨k2, 0, rfl, hEp, rfl, rfl⟩
    case round =>
      obtain ⟨p, j, hp, hj, rfl, hst⟩ := hrel
      obtain ⟨c, hc⟩ := get_some E j hj
      have h0 := HTX2.out j
      rw [← hp, hc] at h0
      obtain ⟨hps, hpc⟩ := byte_at HL.out h0
      have hsp : s.size = p + (E.length - j) := by have := HSZ2.out; omega
      have HP : Hid (p = k2 + j) := hp
      have HST : Hid (Pl.strip (E.drop j) = Pl.strip E) := hst
      have HC : Hid (E[j]? = some c) := hc
      by_cases hl1 : j + 1 < E.length
      · have hlt : (p : Int) < (s.size : Int) - 1 := by omega
        clear hsp hp hst hc h0
        by_cases hc48 : c = 48
        · have hb1 : ((s[p].toNat : Int) == 48) = true := by rw [hpc, hc48]; rfl
          have H48 : Hid (c = 48) := hc48
          clear hpc hc48
          go_wp2_with fail
          go_round
          case rel =>
            refine ⟨p + 1, j + 1, by have := HP.out; omega, hl1, by go_num, ?_⟩
            rw [← HST.out]
            have h5 : E.drop j = c :: E.drop (j + 1) := by
              obtain ⟨h6, h7⟩ := List.getElem?_eq_some_iff.1 HC.out
              rw [List.drop_eq_getElem_cons h6, h7]
            rw [h5, H48.out]
            rfl
          case measure => simp [intOf]; omega
        · have hb1 : ((s[p].toNat : Int) == 48) = false := by rw [hpc]; exact beq_no (d := 48) hc48
          have H48 : Hid (c ≠ 48) := hc48
          clear hpc hc48
          go_wp2_with fail
          go_meet
          case rel => exact ⟨⟨p, j, HP.out, by omega, rfl, HST.out, Or.inr ⟨c, HC.out, H48.out⟩⟩, rfl⟩
      · have hlt : ¬ (p : Int) < (s.size : Int) - 1 := by omega
        clear hsp hp hst hc h0 hpc
        go_wp2_with fail
        go_meet
        case rel => exact ⟨⟨p, j, HP.out, hj, rfl, HST.out, Or.inl (by omega)⟩, rfl⟩
  case rest =>
  obtain ⟨⟨p, j, hp, hj, rfl, hst, hor⟩, rfl⟩ := hcut
  obtain ⟨W, hW⟩ : ∃ W, E.drop j = W := ⟨_, rfl⟩
  obtain ⟨V, hV⟩ : ∃ V, Pl.val E = V := ⟨_, rfl⟩
  have hWl : W.length = E.length - j := by rw [← hW, List.length_drop]
  have hWd : Pl.AllD W := by rw [← hW]; exact hEd.drop j
  have hWv : Pl.val W = V := by rw [← Pl.strip_val W, ← hW, hst, Pl.strip_val, hV]
  have hext : s.extract p s.size = ⟨W.toArray⟩ := by
    rw [extract_end, ← hW]
    congr 2
    apply List.ext_getElem?
    intro i
    rw [List.getElem?_drop, List.getElem?_drop, HL.out, hp, Nat.add_assoc, HTX2.out]
  have hdecW : 19 < W.length → W = Lib.decDigits V := fun h => by
    rw [← hWv]
    refine Pl.dec_of hWd (fun e => by rw [e] at h; simp at h) (fun e => ?_)
    rcases hor with h1 | ⟨c, h1, h2⟩
    · omega
    · rw [List.head?_eq_getElem?, ← hW, List.getElem?_drop, Nat.add_zero, h1] at e
      exact h2 (Option.some.inj e)
  have hps : p ≤ s.size := by have := HSZ2.out; omega
  have hWs : W.length ≤ 1048576 := by omega
  have htotal : n.total = (if b = true then -(V : Int) else (V : Int)) + sh := by
    rw [Pl.Num.total, HSS.out, HEE.out, Pl.written, hV, ← HB.out]
    simp
  have HTOT : Hid (n.total = (if b = true then -(V : Int) else (V : Int)) + sh) := htotal
  have HDW : Hid (19 < W.length → W = Lib.decDigits V) := hdecW
  have HWV : Hid (Pl.val W = V) := hWv
  have HWX : Hid (b = true → W.length + 1 ≤ 1048576) := by
    intro hb
    have h1 := HB.out
    rw [hb] at h1
    have h2 : n.esign = [45] := of_decide_eq_true h1
    have h3 := (Pl.Num.lens hn).2.2 HE.out
    rw [h2, HEE.out] at h3
    rw [← HL.out, ← size_list] at h3
    simp at h3
    omega
  clear hp hst hor hW hV hWl hWv hdecW htotal hEd HTX2 HSZ2 HL HE HEE HB HKE HSS hEs hEp hj
  go_upto_if 127 with fail
  by_cases h19 : 19 < W.length
  case pos =>
    have h19b : decide (19 < (W.length : Int)) = true := by simp; omega
    have hWdec := HDW.out h19
    have hVb : 10000000000000000000 ≤ V := by
      have h1 := HWV.out
      rw [hWdec] at h1 h19
      have h2 := Pl.dec_all V
      rcases Nat.lt_or_ge V 10000000000000000000 with h3 | h3
      · have h4 := Pl.dec_len (N := V) (n := 19) (by intro h5; rw [h5] at h19; simp [Lib.decDigits] at h19) h3
        omega
      · exact h3
    have hsum := far_sum b V sh (by omega)
    rw [← HTOT.out] at hsum
    have HSUM : Hid (Pl.sum (Pl.txt b V) sh = Pl.itxt n.total) := hsum
    have Hdec : Hid (n.dec = ⟨sg, D, 0, Pl.itxt n.total⟩) := by
      show n.dec = _
      have hnf : Pl.fits n.total = false := by
        rw [Bool.eq_false_iff, ne_eq, Pl.fits_iff, HTOT.out]
        cases b <;> simp <;> omega
      rw [Pl.Num.dec, if_neg HDN.out, if_neg (by rw [hnf]; simp), hsg, HDD.out]
    have HWD : Hid (W = Lib.decDigits V) := hWdec
    have hadd45 := add_str [45] W (by simp; omega)
    have htl : (Pl.txt b V).length ≤ 1048576 := by
      have h1 := HWX.out
      unfold Pl.txt
      cases b
      · simp; rw [← hWdec]; exact hWs
      · simp; rw [← hWdec]; have := h1 rfl; omega
    clear hsum hWdec HDW HWX hDl hDp
    rw [h19b]
    go_upto_if 129 with fail
    go_cut [19] from 81 to 131 (fun v19 wx => v19 = .string ⟨(Pl.txt b V).toArray⟩ ∧ wc = wx)
    case first =>
      cases b
      · go_wp2_with fail
        go_meet
        case rel => exact ⟨by simp [Pl.txt, HWD.out], rfl⟩
      · go_wp2_with fail
        go_meet
        case rel => exact ⟨by simp [Pl.txt, HWD.out], rfl⟩
    case rest =>
    obtain ⟨rfl, rfl⟩ := hcut
    have hcan : Pl.Canon (Pl.txt b V) := Pl.txt_canon b (by omega)
    have hkm : sh.natAbs < Pl.val (Pl.mag (Pl.txt b V)) := by rw [Pl.txt_mag, Pl.val_dec]; omega
    obtain ⟨Y, hY⟩ : ∃ Y, Pl.txt b V = Y := ⟨_, rfl⟩
    rw [hY] at hcan hkm htl ⊢
    have HSUM2 : Hid (Pl.sum Y sh = Pl.itxt n.total) := by show Pl.sum Y sh = _; rw [← hY]; exact HSUM.out
    clear hY HSUM
    go_wp2_with fail
    refine (model_any ⟨Y.toArray⟩ sh _ (by rw [size_mk]; exact htl) hcan (by omega) (by omega) hkm).mono ?_
    rintro e w8 ⟨rfl, hb8⟩
    rw [show Pl.sum (⟨Y.toArray⟩ : ByteArray).data.toList sh = Pl.itxt n.total from HSUM2.out]
    have hbw8 := below_then hbw hb8
    clear hb8 HSUM2 hcan htl hkm
    go_wp2_with fail
    rw [Hdec.out]
    refine bodyPost_ret (v := .tuple #[.bool sg, .string ⟨D.toArray⟩, .int .i64 0, .string ⟨(Pl.itxt n.total).toArray⟩]) (by simp [results, Tryd.results19, go_sem]) rfl ⟨rfl, hbw8⟩
  case neg =>
  have h19b : decide (19 < (W.length : Int)) = false := by simp; omega
  have hVb : V < 10000000000000000000 := by
    have h1 := val_bound hWd (n := 19) (by omega)
    rw [HWV.out] at h1
    exact h1
  have hVi : (V : Int) ≤ 9999999999999999999 := by omega
  rw [h19b]
  obtain ⟨K, hK⟩ : ∃ K : Nat, sh.natAbs = K := ⟨_, rfl⟩
  obtain ⟨sn, hsn⟩ : ∃ sn : Bool, decide (sh < 0) = sn := ⟨_, rfl⟩
  have hKi : (K : Int) ≤ 2000000 := by omega
  have HK : Hid (sh.natAbs = K) := hK
  have HSN : Hid (decide (sh < 0) = sn) := hsn
  obtain ⟨T, hT⟩ : ∃ T, n.total = T := ⟨_, rfl⟩
  have HTV : Hid (T = (if b = true then -(V : Int) else (V : Int)) + sh) := by show T = _; rw [← hT]; exact HTOT.out
  have HT : Hid (n.total = T) := hT
  clear hK hT HDW HWX HTOT hDl hDp
  go_upto_if 145 with (first
    | (go_at_call 27; refine (digitsValue_list _ _ hWd (by omega)).mono ?_; rintro e w5 ⟨rfl, rfl⟩; rw [HWV.out])
    | (go_at_call 12; refine (abs_any _ _ (by omega) (by omega)).mono ?_; rintro e w5 ⟨rfl, rfl⟩; rw [HK.out]))
  clear hsn
  go_cut [23, 24] from 81 to 160 (fun v23 v24 wx => ∃ r : Bool, v23 = .int .u64 ((T.natAbs : Nat) : Int) ∧ v24 = .bool r ∧ (T ≠ 0 → r = decide (T < 0)) ∧ w5 = wx)
  case first =>
    rcases (by cases b <;> cases sn <;> simp : (b = true ∧ sn = true) ∨ (b = true ∧ sn = false) ∨ (b = false ∧ sn = true) ∨ (b = false ∧ sn = false)) with ⟨rfl, rfl⟩ | ⟨rfl, rfl⟩ | ⟨rfl, rfl⟩ | ⟨rfl, rfl⟩
    · have hT2 : T = -(V : Int) + sh := by have := HTV.out; simpa using this
      have hs2 : sh < 0 := by have := HSN.out; simp at this; omega
      have hK2 := HK.out
      have H2 : Hid (T = -(V : Int) + sh ∧ sh.natAbs = K) := ⟨hT2, hK2⟩
      clear hT2 hK2 HTV HSN HK
      go_wp2_with fail
      go_meet
      case rel =>
        obtain ⟨h3, h4⟩ := H2.out
        exact ⟨true, val_eq (by omega), rfl, (fun h => by simp; omega), rfl⟩
    · have hT2 : T = -(V : Int) + sh := by have := HTV.out; simpa using this
      have hs2 : 0 ≤ sh := by have := HSN.out; simp at this; omega
      have hK2 := HK.out
      have H2 : Hid (T = -(V : Int) + sh ∧ sh.natAbs = K) := ⟨hT2, hK2⟩
      clear hT2 hK2 HTV HSN HK
      by_cases hVK : K ≤ V
      · have hVKb : (K : Int) ≤ (V : Int) := by omega
        go_wp2_with fail
        go_meet
        case rel =>
          obtain ⟨h3, h4⟩ := H2.out
          exact ⟨true, val_eq (by omega), rfl, (fun h => by simp; omega), rfl⟩
      · have hVKb : ¬ (K : Int) ≤ (V : Int) := by omega
        go_wp2_with fail
        go_meet
        case rel =>
          obtain ⟨h3, h4⟩ := H2.out
          exact ⟨false, val_eq (by omega), rfl, (fun h => by simp; omega), rfl⟩
    · have hT2 : T = (V : Int) + sh := by have := HTV.out; simpa using this
      have hs2 : sh < 0 := by have := HSN.out; simp at this; omega
      have hK2 := HK.out
      have H2 : Hid (T = (V : Int) + sh ∧ sh.natAbs = K) := ⟨hT2, hK2⟩
      clear hT2 hK2 HTV HSN HK
      by_cases hVK : K ≤ V
      · have hVKb : (K : Int) ≤ (V : Int) := by omega
        go_wp2_with fail
        go_meet
        case rel =>
          obtain ⟨h3, h4⟩ := H2.out
          exact ⟨false, val_eq (by omega), rfl, (fun h => by simp; omega), rfl⟩
      · have hVKb : ¬ (K : Int) ≤ (V : Int) := by omega
        go_wp2_with fail
        go_meet
        case rel =>
          obtain ⟨h3, h4⟩ := H2.out
          exact ⟨true, val_eq (by omega), rfl, (fun h => by simp; omega), rfl⟩
    · have hT2 : T = (V : Int) + sh := by have := HTV.out; simpa using this
      have hs2 : 0 ≤ sh := by have := HSN.out; simp at this; omega
      have hK2 := HK.out
      have H2 : Hid (T = (V : Int) + sh ∧ sh.natAbs = K) := ⟨hT2, hK2⟩
      clear hT2 hK2 HTV HSN HK
      go_wp2_with fail
      go_meet
      case rel =>
        obtain ⟨h3, h4⟩ := H2.out
        exact ⟨false, val_eq (by omega), rfl, (fun h => by simp; omega), rfl⟩
  case rest =>
  obtain ⟨r, rfl, rfl, hr, rfl⟩ := hcut
  obtain ⟨M, hM⟩ : ∃ M, T.natAbs = M := ⟨_, rfl⟩
  have hMb : (M : Int) ≤ 18000000000000000000 := by
    have h1 := HTV.out
    have h2 := HK.out
    cases b <;> simp at h1 <;> omega
  rw [hM]
  have HM : Hid (T.natAbs = M) := hM
  clear hM HTV HK HSN
  by_cases hT0 : T = 0
  · have hM0 : ((M : Int) == 0) = true := by rw [beq_iff_eq]; have := HM.out; omega
    have Hdec : Hid (n.dec = ⟨sg, D, 0, []⟩) := by
      show n.dec = _
      rw [Pl.Num.dec, if_neg HDN.out, HT.out, hT0, if_pos (by decide), hsg, HDD.out]
    clear hr hT0
    go_wp2_with fail
    rw [Hdec.out]
    refine bodyPost_ret (v := .tuple #[.bool sg, .string ⟨D.toArray⟩, .int .i64 0, .string ⟨#[]⟩]) (by simp [results, Tryd.results19, go_sem]) rfl ⟨rfl, hbw⟩
  · have hM0 : ((M : Int) == 0) = false := by rw [beq_eq_false_iff_ne]; have := HM.out; omega
    have hr2 := hr hT0
    have hM1 : 1 ≤ (M : Int) := by have := HM.out; omega
    clear hr
    by_cases hneg : T < 0
    · obtain rfl : r = true := by rw [hr2]; simpa using hneg
      clear hr2
      by_cases hfit : (M : Int) ≤ 9223372036854775808
      · have Hdec : Hid (n.dec = ⟨sg, D, T, []⟩) := by
          show n.dec = _
          rw [Pl.Num.dec, if_neg HDN.out, HT.out, if_pos ((Pl.fits_iff _).2 (by have := HM.out; omega)), hsg, HDD.out]
        have HTM : Hid (-((M : Int) - 1) - 1 = T) := by show -((M : Int) - 1) - 1 = T; have := HM.out; omega
        clear hT0 hneg
        go_wp2_with fail
        rw [Hdec.out, ← HTM.out]
        refine bodyPost_ret (v := .tuple #[.bool sg, .string ⟨D.toArray⟩, .int .i64 (-((M : Int) - 1) - 1), .string ⟨#[]⟩]) (by simp [results, Tryd.results19, go_sem]) rfl ⟨rfl, hbw⟩
      · have Hdec : Hid (n.dec = ⟨sg, D, 0, 45 :: Lib.decDigits M⟩) := by
          show n.dec = _
          have hnf : Pl.fits T = false := by rw [Bool.eq_false_iff, ne_eq, Pl.fits_iff]; have := HM.out; omega
          rw [Pl.Num.dec, if_neg HDN.out, HT.out, if_neg (by rw [hnf]; simp), hsg, HDD.out, Pl.itxt, Pl.txt, HM.out, if_pos (by simpa using hneg)]
        have hml : (Lib.decDigits M).length ≤ 20 := Pl.dec_len (by omega) (by omega)
        have hadd45 := add_str [45] (Lib.decDigits M) (by simp; omega)
        clear hT0 hneg
        go_wp2_with (go_at_call 34; refine (fmtUint_any M _ (by omega)).mono ?_; rintro e w6 ⟨rfl, hb6⟩; have hbw6 := below_then hbw hb6; clear hb6)
        rw [Hdec.out]
        refine bodyPost_ret (v := .tuple #[.bool sg, .string ⟨D.toArray⟩, .int .i64 0, .string ⟨(45 :: Lib.decDigits M).toArray⟩]) (by simp [results, Tryd.results19, go_sem]) rfl ⟨rfl, hbw6⟩
    · obtain rfl : r = false := by rw [hr2]; simpa using hneg
      clear hr2
      by_cases hfit : (M : Int) ≤ 9223372036854775807
      · have Hdec : Hid (n.dec = ⟨sg, D, T, []⟩) := by
          show n.dec = _
          rw [Pl.Num.dec, if_neg HDN.out, HT.out, if_pos ((Pl.fits_iff _).2 (by have := HM.out; omega)), hsg, HDD.out]
        have HTM : Hid ((M : Int) = T) := by show (M : Int) = T; have := HM.out; omega
        clear hT0 hneg
        go_wp2_with fail
        rw [Hdec.out, ← HTM.out]
        refine bodyPost_ret (v := .tuple #[.bool sg, .string ⟨D.toArray⟩, .int .i64 (M : Int), .string ⟨#[]⟩]) (by simp [results, Tryd.results19, go_sem]) rfl ⟨rfl, hbw⟩
      · have Hdec : Hid (n.dec = ⟨sg, D, 0, Lib.decDigits M⟩) := by
          show n.dec = _
          have hnf : Pl.fits T = false := by rw [Bool.eq_false_iff, ne_eq, Pl.fits_iff]; have := HM.out; omega
          rw [Pl.Num.dec, if_neg HDN.out, HT.out, if_neg (by rw [hnf]; simp), hsg, HDD.out, Pl.itxt, Pl.txt, HM.out, if_neg (by simpa using hneg)]
        clear hT0 hneg
        go_wp2_with (go_at_call 34; refine (fmtUint_any M _ (by omega)).mono ?_; rintro e w6 ⟨rfl, hb6⟩; have hbw6 := below_then hbw hb6; clear hb6)
        rw [Hdec.out]
        refine bodyPost_ret (v := .tuple #[.bool sg, .string ⟨D.toArray⟩, .int .i64 0, .string ⟨(Lib.decDigits M).toArray⟩]) (by simp [results, Tryd.results19, go_sem]) rfl ⟨rfl, hbw6⟩
end Go.Proofs.Qxb6602256aDoor
