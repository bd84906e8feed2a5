/-
  zzModelAdd.
-/
import Derived.Test.Qxb6602256aDoorWalksB
namespace Go.Proofs.Qxb6602256aDoor
open Go.RowKit

/-! ### The contracts at lists of bytes -/
theorem size_mk (l : List UInt8) : (⟨l.toArray⟩ : ByteArray).size = l.length := size_list _
theorem digitsValue_list (l : List UInt8) (w : World) (hd : Pl.AllD l) (hs : l.length ≤ 19) :
    Calls Tryd.prog 27 #[.string ⟨l.toArray⟩] w fun e w' => e = .returned (.int .u64 (Pl.val l)) ∧ w' = w := digitsValue_any ⟨l.toArray⟩ w hd (by rw [size_mk]; exact hs)
theorem inc_list (l : List UInt8) (w : World) (hs : l.length ≤ 1048576) (hd : Pl.AllD l) :
    Calls Tryd.prog 29 #[.string ⟨l.toArray⟩] w fun e w' => ∃ r : List UInt8, e = .returned (.string ⟨r.toArray⟩) ∧ Pl.AllD r ∧ Pl.val r = Pl.val l + 1 ∧ r.length ≤ l.length + 1 ∧ Below w.heap.size w w' := by
  have := inc_any ⟨l.toArray⟩ w (by rw [size_mk]; exact hs) hd
  rw [size_mk] at this
  exact this
theorem dec_list (l : List UInt8) (w : World) (hs : l.length ≤ 1048576) (hd : Pl.AllD l) (hp : 0 < Pl.val l) :
    Calls Tryd.prog 30 #[.string ⟨l.toArray⟩] w fun e w' => ∃ r : List UInt8, e = .returned (.string ⟨r.toArray⟩) ∧ Pl.AllD r ∧ Pl.val r + 1 = Pl.val l ∧ r.length ≤ l.length + 1 ∧ Below w.heap.size w w' := by
  have := dec_any ⟨l.toArray⟩ w (by rw [size_mk]; exact hs) hd hp
  rw [size_mk] at this
  exact this
theorem strip_list (l : List UInt8) (w : World) (hs : l.length ≤ 8388608) :
    Calls Tryd.prog 31 #[.string ⟨l.toArray⟩] w fun e w' => e = .returned (.string ⟨(Pl.strip l).toArray⟩) ∧ w' = w := strip_any ⟨l.toArray⟩ w (by rw [size_mk]; unfold maxLen; omega)
theorem pad_int (z : Int) (w : World) (h0 : 0 ≤ z) (h1 : z < 10000000000000000000) :
    Calls Tryd.prog 32 #[.int .u64 z] w fun e w' => ∃ r : List UInt8, e = .returned (.string ⟨r.toArray⟩) ∧ Pl.AllD r ∧ (Pl.val r : Int) = z ∧ r.length = 19 ∧ Below w.heap.size w w' := by
  obtain ⟨V, rfl⟩ := Int.eq_ofNat_of_zero_le h0
  refine (pad_any V w (by omega)).mono ?_
  rintro e w' ⟨r, he, hd, hv, hl, hb⟩
  exact ⟨r, he, hd, by omega, hl, hb⟩
theorem below_then {a b c : World} (h : Below a.heap.size a b) (k : Below b.heap.size b c) : Below a.heap.size a c := h.trans (k.mono h.size)

theorem val_cut (m : List UInt8) (c : Nat) (h : m.length = c + 19 ∨ (m.length < 19 ∧ c = 0)) : Pl.val m = Pl.val (m.take c) * 10000000000000000000 + Pl.val (m.drop c) := by
  rcases h with h | ⟨h, rfl⟩
  · have := Pl.val_append (m.take c) (m.drop c)
    rw [List.take_append_drop, List.length_drop, h, show c + 19 - c = 19 by omega] at this
    exact this
  · simp [Pl.val]
theorem model_end {h r : List UInt8} {N : Nat} (hh : Pl.AllD h) (hr : Pl.AllD r) (hl : r.length = 19) (hv : Pl.val h * 10000000000000000000 + Pl.val r = N) (h0 : N ≠ 0) : Pl.strip (h ++ r) = Lib.decDigits N := by
  have e : Pl.val (h ++ r) = N := by rw [Pl.val_append, hl]; exact hv
  rw [Pl.strip_dec (hh.append hr) (by rw [e]; exact h0), e]
/-- What is left of zzModelAdd behind the cut: the two parts are known. -/
structure Cut (m hi lo : List UInt8) : Prop where
  hid : Pl.AllD hi
  lod : Pl.AllD lo
  hil : hi.length ≤ 1048576
  lol : lo.length ≤ 19
  val : Pl.val m = Pl.val hi * 10000000000000000000 + Pl.val lo

set_option maxRecDepth 100000 in
set_option maxHeartbeats 1000000 in
theorem model_any (s : ByteArray) (k : Int) (w : World) (hs : s.size ≤ 1048576) (hc : Pl.Canon s.data.toList) (h0 : -9223372036854775808 ≤ k) (h1 : k ≤ 9223372036854775807) (hk : k.natAbs < Pl.val (Pl.mag s.data.toList)) :
    Calls Tryd.prog 14 #[.string s, .int .i64 k] w fun e w' => e = .returned (.string ⟨(Pl.sum s.data.toList k).toArray⟩) ∧ Below w.heap.size w w' := by
  have hs0 : 0 < s.size := by
    rw [size_list]
    have h1 := Pl.mag_len s.data.toList
    have h2 := List.length_pos_iff.2 hc.1
    omega
  have hBneg : ((s[0].toNat : Int) == 45) = Pl.neg s.data.toList := by
    rw [Bool.eq_iff_iff, Pl.neg_iff, head_list s hs0]
    constructor
    · intro h
      have h3 : s[0] = 45 := beq_byte.1 (by simpa using h)
      rw [h3]
    · intro h; rw [Option.some.inj h]; rfl
  obtain ⟨B, hB⟩ : ∃ B : Bool, Pl.neg s.data.toList = B := ⟨_, rfl⟩
  obtain ⟨G, hG⟩ : ∃ G : Bool, (decide (k < 0) == B) = G := ⟨_, rfl⟩
  obtain ⟨m, hm⟩ : ∃ m : List UInt8, Pl.mag s.data.toList = m := ⟨_, rfl⟩
  obtain ⟨K, hK⟩ : ∃ K : Nat, k.natAbs = K := ⟨_, rfl⟩
  rw [hm, hK] at hk
  have hKb : (K : Int) ≤ 9223372036854775808 := by omega
  have hml : m.length ≤ 1048576 := by have := Pl.mag_len s.data.toList; rw [hm, ← size_list] at this; omega
  have hmd : Pl.AllD m := by rw [← hm]; exact hc.2.2
  have hsum : Pl.sum s.data.toList k = Pl.txt B (if G = true then Pl.val m + K else Pl.val m - K) := by
    unfold Pl.sum
    rw [hm, hB, hK]
    congr 1
    rw [← hG]
    simp only [beq_iff_eq]
  rw [hsum]
  rw [hB] at hBneg
  have HM : Hid (Pl.mag s.data.toList = m) := hm
  have HK : Hid (k.natAbs = K) := hK
  clear hsum hm hK hB hc
  obtain ⟨N, hN⟩ : ∃ N : Nat, (if G = true then Pl.val m + K else Pl.val m - K) = N := ⟨_, rfl⟩
  have HN : Hid ((if G = true then Pl.val m + K else Pl.val m - K) = N) := hN
  have HN0 : Hid (N ≠ 0) := by show N ≠ 0; rw [← hN]; split <;> omega
  rw [hN]
  clear hN
  rcases Nat.lt_or_ge m.length 19 with hlt | hge
  case' inl =>
    go_enter Tryd.func14, Tryd.ntmps14
    go_wp2_with (first
      | (go_at_call 11; refine (mag_any _ _).mono ?_; rintro e w' ⟨rfl, rfl⟩; rw [HM.out])
      | (go_at_call 12; refine (abs_any _ _ h0 h1).mono ?_; rintro e w' ⟨rfl, rfl⟩; rw [HK.out]))
    obtain ⟨hi, lo, e1, e2, C⟩ : ∃ hi lo : List UInt8, ByteArray.empty = ⟨hi.toArray⟩ ∧ (⟨m.toArray⟩ : ByteArray).extract 0 m.length = ⟨lo.toArray⟩ ∧ Cut m hi lo := by
      refine ⟨[], m, rfl, ?_, ⟨Pl.AllD.nil, hmd, by simp, by omega, by simp [Pl.val]⟩⟩
      rw [extract_head]; simp
    rw [e1, e2]
    clear e1 e2
  case' inr =>
    go_enter Tryd.func14, Tryd.ntmps14
    go_wp2_with (first
      | (go_at_call 11; refine (mag_any _ _).mono ?_; rintro e w' ⟨rfl, rfl⟩; rw [HM.out])
      | (go_at_call 12; refine (abs_any _ _ h0 h1).mono ?_; rintro e w' ⟨rfl, rfl⟩; rw [HK.out]))
    obtain ⟨hi, lo, e1, e2, C⟩ : ∃ hi lo : List UInt8, (⟨m.toArray⟩ : ByteArray).extract 0 (m.length - 19) = ⟨hi.toArray⟩ ∧ (⟨m.toArray⟩ : ByteArray).extract (m.length - 19) m.length = ⟨lo.toArray⟩ ∧ Cut m hi lo := by
      refine ⟨m.take (m.length - 19), m.drop (m.length - 19), ?_, ?_, ⟨hmd.take _, hmd.drop _, by simp; omega, by simp; omega, val_cut m _ (by omega)⟩⟩
      · rw [extract_head]
      · have := extract_end ⟨m.toArray⟩ (m.length - 19)
        rw [size_mk] at this
        exact this
    rw [e1, e2]
    clear e1 e2
  all_goals
    refine (digitsValue_list lo _ C.lod C.lol).mono ?_
    rintro e w' ⟨rfl, rfl⟩
    have hV := val_bound C.lod C.lol
    have hv := C.val
    obtain ⟨V, eV⟩ : ∃ V : Nat, Pl.val lo = V := ⟨_, rfl⟩
    have hil := C.hil
    have hhid := C.hid
    rw [eV] at hV hv ⊢
    have hVb : (V : Int) ≤ 9999999999999999999 := by omega
    have HV : Hid (Pl.val m = Pl.val hi * 10000000000000000000 + V) := hv
    have HP : Hid (V < K → 0 < Pl.val hi) := by show V < K → 0 < Pl.val hi; omega
    have hil2 : hi.length ≤ 1048577 := by omega
    clear hv eV C hV
    have hadd : ∀ (x y : List UInt8) (W : World), x.length ≤ 1048577 → y.length = 19 → Sem.run Tryd.prog (Op.stringOp .add ⟨x.toArray⟩ ⟨y.toArray⟩) W = .ok (.string ⟨(x ++ y).toArray⟩) W := fun x y W hx hy => add_str x y (by omega) W
    go_wp2_with (first
      | (go_at_call 29; refine (inc_list _ _ hil hhid).mono ?_; rintro e w1 ⟨r, rfl, hrd, hrv, hrl, hb1⟩; have hrl2 : r.length ≤ 1048577 := by omega)
      | (go_at_call 30; refine (dec_list _ _ hil hhid (HP.out (by omega))).mono ?_; rintro e w1 ⟨r, rfl, hrd, hrv, hrl, hb1⟩; have hrl2 : r.length ≤ 1048577 := by omega)
      | (go_at_call 32; refine (pad_int _ _ (by omega) (by omega)).mono ?_; rintro e w2 ⟨r2, rfl, hr2d, hr2v, hr2l, hb2⟩))
    all_goals
      have hN := HN.out
      have hv := HV.out
      first | simp only [‹G = true›, if_true] at hN | simp only [‹G = false›, Bool.false_eq_true, if_false] at hN
      first
        | (have e := model_end (N := N) hrd hr2d hr2l (by omega) HN0.out
           have hlen := Pl.strip_len (r ++ r2)
           rw [e, List.length_append] at hlen
           have hlen2 : (Lib.decDigits N).length ≤ 2000000 := by omega
           have hbb := below_then hb1 hb2
           refine (strip_list (r ++ r2) _ (by rw [List.length_append]; omega)).mono ?_
           rintro e' w3 ⟨rfl, rfl⟩
           rw [e])
        | (have e := model_end (N := N) hhid hr2d hr2l (by omega) HN0.out
           have hlen := Pl.strip_len (hi ++ r2)
           rw [e, List.length_append] at hlen
           have hlen2 : (Lib.decDigits N).length ≤ 2000000 := by omega
           have hbb := hb2
           refine (strip_list (hi ++ r2) _ (by rw [List.length_append]; omega)).mono ?_
           rintro e' w3 ⟨rfl, rfl⟩
           rw [e])
      have hadd45 := add_str [45] (Lib.decDigits N) (by simp; omega)
      clear hadd HN HV HP HM HK hN hv hlen e
      cases B
      · go_wp2
        go_ret
        exact ⟨ret_str (by simp [Pl.txt]), hbb⟩
      · go_wp2
        go_ret
        exact ⟨ret_str (by simp [Pl.txt]), hbb⟩
end Go.Proofs.Qxb6602256aDoor
