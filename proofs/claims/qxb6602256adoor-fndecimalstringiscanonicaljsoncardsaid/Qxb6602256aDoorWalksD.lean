/-
  addInteger.
-/
import Derived.Test.Qxb6602256aDoorWalksC
import Derived.Test.Qxb6602256aDoorShelfA
namespace Go.Proofs.Qxb6602256aDoor
open Go.RowKit

theorem hasPrefix_neg (l : List UInt8) : Lib.hasPrefix l [45] = Pl.neg l := by
  unfold Lib.hasPrefix Pl.neg
  cases l with
  | nil => rfl
  | cons c r =>
    simp [List.isPrefixOf]
    exact Bool.eq_iff_iff.2 ⟨fun h => by simp at h ⊢; exact h.symm, fun h => by simp at h ⊢; exact h.symm⟩
theorem trimPrefix_mag (l : List UInt8) : Lib.trimPrefix l [45] = Pl.mag l := by
  unfold Lib.trimPrefix Pl.mag
  rw [hasPrefix_neg]
  by_cases h : l.head? = some 45
  · rw [if_pos ((Pl.neg_iff l).2 h), if_pos h]; simp
  · rw [if_neg (fun e => h ((Pl.neg_iff l).1 e)), if_neg h]
theorem trimLeft0 (l : List UInt8) (w : World) :
    Calls Tryd.prog 38 #[.string ⟨l.toArray⟩, .string ⟨#[48]⟩] w fun e w' => e = .returned (.string ⟨(Pl.strip l).toArray⟩) ∧ w' = w := Tryd.strings_TrimLeft_one ⟨l.toArray⟩ 48 (by decide) w

/-! ### The loop's invariant: what has been added (or taken) so far -/
def Inv (G : Bool) (V K p c st vb : Nat) : Prop := if G = true then vb + (c + st) * 10 ^ p = V + K else vb + K = V + (c + st) * 10 ^ p

theorem step_arith {o d c c' st P : Nat} (h : d + 10 * c' = o + st % 10 + c) : d * P + (c' + st / 10) * (P * 10) = o * P + (c + st) * P := by
  have e1 : d * P + 10 * (c' * P) = o * P + (st % 10) * P + c * P := by
    have : (d + 10 * c') * P = (o + st % 10 + c) * P := by rw [h]
    simpa [Nat.add_mul, Nat.mul_assoc] using this
  have e2 : st * P = 10 * ((st / 10) * P) + (st % 10) * P := by
    have : st * P = (10 * (st / 10) + st % 10) * P := by rw [Nat.div_add_mod]
    rw [this, Nat.add_mul, Nat.mul_assoc]
  have e3 : (c' + st / 10) * (P * 10) = 10 * (c' * P) + 10 * ((st / 10) * P) := by
    rw [Nat.add_mul, Nat.mul_comm P 10, Nat.mul_left_comm, Nat.mul_left_comm (st / 10)]
  rw [Nat.add_mul c st P]
  omega
theorem step_arith2 {o d c c' st P : Nat} (h : d + st % 10 + c = o + 10 * c') : d * P + (c + st) * P = o * P + (c' + st / 10) * (P * 10) := by
  have e1 : d * P + (st % 10) * P + c * P = o * P + 10 * (c' * P) := by
    have : (d + st % 10 + c) * P = (o + 10 * c') * P := by rw [h]
    simpa [Nat.add_mul, Nat.mul_assoc] using this
  have e2 : st * P = 10 * ((st / 10) * P) + (st % 10) * P := by
    have : st * P = (10 * (st / 10) + st % 10) * P := by rw [Nat.div_add_mod]
    rw [this, Nat.add_mul, Nat.mul_assoc]
  have e3 : (c' + st / 10) * (P * 10) = 10 * (c' * P) + 10 * ((st / 10) * P) := by
    rw [Nat.add_mul, Nat.mul_comm P 10, Nat.mul_left_comm, Nat.mul_left_comm (st / 10)]
  rw [Nat.add_mul c st P]
  omega
theorem inv_step {b : List UInt8} {G : Bool} {V K p c c' st n : Nat} {o d : UInt8} (h : Inv G V K p c st (Pl.val b)) (hlen : n + p + 1 = b.length) (ho : b[n]? = some o) (ho48 : 48 ≤ o.toNat) (hd48 : 48 ≤ d.toNat)
    (hd : if G = true then d.toNat + 10 * c' = o.toNat + st % 10 + c else d.toNat + st % 10 + c = o.toNat + 10 * c') : Inv G V K (p + 1) c' (st / 10) (Pl.val (b.set n d)) := by
  have h1 := val_set b n p hlen o d ho
  cases G
  · simp only [Inv, Bool.false_eq_true, if_false] at h hd ⊢
    have h2 := step_arith2 (o := o.toNat - 48) (d := d.toNat - 48) (c := c) (c' := c') (st := st) (P := 10 ^ p) (by omega)
    rw [Nat.pow_succ]
    omega
  · simp only [Inv, if_true] at h hd ⊢
    have h2 := step_arith (o := o.toNat - 48) (d := d.toNat - 48) (c := c) (c' := c') (st := st) (P := 10 ^ p) (by omega)
    rw [Nat.pow_succ]
    omega
/-- The loop's end: nothing is left to carry. -/
theorem inv_end {b : List UInt8} {G : Bool} {V K p N : Nat} (h : Inv G V K p 0 0 (Pl.val b)) (hb : Pl.AllD b) (hN : (if G = true then V + K else V - K) = N) (h0 : N ≠ 0) : Pl.strip b = Lib.decDigits N := by
  have e : Pl.val b = N := by
    cases G
    · simp only [Inv, Bool.false_eq_true, if_false, Nat.add_zero, Nat.zero_mul] at h hN
      omega
    · simp only [Inv, if_true, Nat.add_zero, Nat.zero_mul] at h hN
      omega
  rw [Pl.strip_dec hb (by rw [e]; exact h0), e]
/-- .. or one carry goes past the highest digit. -/
theorem inv_over {b : List UInt8} {G : Bool} {V K p N : Nat} (h : Inv G V K p 1 0 (Pl.val b)) (hb : Pl.AllD b) (hp : b.length = p) (hK : K < V) (hN : (if G = true then V + K else V - K) = N) : (49 : UInt8) :: b = Lib.decDigits N := by
  have hlt := Pl.val_lt hb
  rw [hp] at hlt
  cases G
  · simp only [Inv, Bool.false_eq_true, if_false, Nat.add_zero, Nat.one_mul] at h
    omega
  · simp only [Inv, if_true, Nat.add_zero, Nat.one_mul] at h hN
    have e : Pl.val ((49 : UInt8) :: b) = N := by
      rw [Pl.val_cons, hp, show (49 : UInt8).toNat - 48 = 1 from rfl]
      omega
    rw [← e]
    exact Pl.dec_of (Pl.AllD.cons (by decide) hb) (by simp) (by simp)
theorem spent {K V p : Nat} {m : List UInt8} (hm : Pl.AllD m) (hp : m.length = p) (hV : Pl.val m = V) (hK : K < V) : K / 10 ^ p = 0 := by
  have := Pl.val_lt hm
  rw [hp, hV] at this
  exact Nat.div_eq_of_lt (by omega)

/-- The round's end. -/
theorem rel_close {G : Bool} {m b : List UInt8} {K p st c n g : Nat} {o : UInt8} {w' wr : World} (c' : Nat) (X z : Int) (hz : z = (c' : Int)) (hc' : c' ≤ 1) (hX1 : 48 ≤ X) (hX2 : X ≤ 57)
    (hXe : if G = true then X + 10 * (c' : Int) = (o.toNat : Int) + (st : Int) % 10 + (c : Int) else X + (st : Int) % 10 + (c : Int) = (o.toNat : Int) + 10 * (c' : Int))
    (hnp : n + 1 + p = m.length) (hS : st = K / 10 ^ p) (hL : b.length = m.length) (hbd : Pl.AllD b) (hod : 48 ≤ o.toNat) (hinv : Inv G (Pl.val m) K p c st (Pl.val b)) (hr : Row wr g b) (hbw : Below g w' wr) (ho : b[n]? = some o) :
    ∃ (n' p' st' c'' : Nat) (b' : List UInt8), n' + p' = m.length ∧ Value.int .u64 ((st : Int) / 10) = .int .u64 (st' : Int) ∧ Value.int .i64 z = .int .i64 (c'' : Int) ∧ Value.int .i64 ((n : Int) - 1) = .int .i64 ((n' : Int) - 1) ∧ c'' ≤ 1 ∧ st' = K / 10 ^ p' ∧
      b'.length = m.length ∧ Pl.AllD b' ∧ Inv G (Pl.val m) K p' c'' st' (Pl.val b') ∧ Row (wr.setCell ⟨g, n, none⟩ (.int .u8 X)) g b' ∧ Below g w' (wr.setCell ⟨g, n, none⟩ (.int .u8 X)) := by
  obtain ⟨d, hd⟩ : ∃ d : UInt8, (d.toNat : Int) = X := ⟨UInt8.ofNat X.toNat, by rw [UInt8.toNat_ofNat']; omega⟩
  refine ⟨n, p + 1, st / 10, c', b.set n d, by omega, rfl, by rw [hz], rfl, hc', ?_, by simpa using hL, allD_set hbd n (by omega), ?_, hr.set n (by omega) d X hd.symm, hbw.setCell (Nat.le_refl _) _⟩
  · rw [Nat.pow_succ, ← Nat.div_div_eq_div_mul, ← hS]
  · refine inv_step hinv (by omega) ho hod (by omega) ?_
    cases G
    · simp only [Bool.false_eq_true, if_false] at hXe ⊢
      omega
    · simp only [if_true] at hXe ⊢
      omega

set_option maxRecDepth 100000 in
set_option maxHeartbeats 2000000 in
theorem add_any (s : ByteArray) (k : Int) (w : World) (hs : s.size ≤ 2097152) (hc : Pl.Canon s.data.toList) (h0 : -9223372036854775808 ≤ k) (h1 : k ≤ 9223372036854775807) (hk : k.natAbs < Pl.val (Pl.mag s.data.toList)) :
    Calls Tryd.prog 28 #[.string s, .int .i64 k] w fun e w' => e = .returned (.string ⟨(Pl.sum s.data.toList k).toArray⟩) ∧ Below w.heap.size w w' := by
  obtain ⟨B, hB⟩ : ∃ B : Bool, Pl.neg s.data.toList = B := ⟨_, rfl⟩
  obtain ⟨G, hG⟩ : ∃ G : Bool, (decide (k < 0) == B) = G := ⟨_, rfl⟩
  obtain ⟨m, hm⟩ : ∃ m : List UInt8, Pl.mag s.data.toList = m := ⟨_, rfl⟩
  obtain ⟨K, hK⟩ : ∃ K : Nat, k.natAbs = K := ⟨_, rfl⟩
  rw [hm, hK] at hk
  have hKb : (K : Int) ≤ 9223372036854775808 := by omega
  have hml : m.length ≤ 2097152 := by have := Pl.mag_len s.data.toList; rw [hm, ← size_list] at this; omega
  have hmd : Pl.AllD m := by rw [← hm]; exact hc.2.2
  have hsum : Pl.sum s.data.toList k = Pl.txt B (if G = true then Pl.val m + K else Pl.val m - K) := by
    unfold Pl.sum
    rw [hm, hB, hK]
    congr 1
    rw [← hG]
    simp only [beq_iff_eq]
  rw [hsum]
  obtain ⟨cap, w1, hrun, hrow, hbel, hsz⟩ := bytes_of w ⟨m.toArray⟩
  rw [size_mk] at hrun
  have HM : Hid (Pl.mag s.data.toList = m) := hm
  have HB : Hid (Pl.neg s.data.toList = B) := hB
  clear hsum hm hB hc
  obtain ⟨N, hN⟩ : ∃ N : Nat, (if G = true then Pl.val m + K else Pl.val m - K) = N := ⟨_, rfl⟩
  have HN : Hid ((if G = true then Pl.val m + K else Pl.val m - K) = N) := hN
  have HN0 : Hid (N ≠ 0) := by show N ≠ 0; rw [← hN]; split <;> omega
  rw [hN]
  clear hN
  have hcases : (k < 0 ∧ B = true ∧ G = true) ∨ (k < 0 ∧ B = false ∧ G = false) ∨ (0 ≤ k ∧ B = false ∧ G = true) ∨ (0 ≤ k ∧ B = true ∧ G = false) := by
    revert hG
    by_cases h : k < 0
    · cases B <;> cases G <;> simp [h]
    · cases B <;> cases G <;> simp [h] <;> omega
  clear hG
  have hw : k < 0 → IntKind.u64.wrap (-IntKind.u64.wrap k) = K := fun h => by
    rw [PlainAid.u64_neg h (by omega), IntKind.wrap_u64]
    omega
  have hw2 : 0 ≤ k → k = K := fun h => by omega
  clear hK
  rcases hcases with ⟨hk0, rfl, hGv⟩ | ⟨hk0, rfl, hGv⟩ | ⟨hk0, rfl, hGv⟩ | ⟨hk0, rfl, hGv⟩
  case' inl => have HGv : Hid (G = true) := hGv; clear hGv; have hw3 := hw hk0; clear hw hw2
  case' inr.inl => have HGv : Hid (G = false) := hGv; clear hGv; have hw3 := hw hk0; clear hw hw2
  case' inr.inr.inl => have HGv : Hid (G = true) := hGv; clear hGv; obtain rfl := hw2 hk0; clear hw hw2; have hKd : decide ((K : Int) < 0) = false := by simp
  case' inr.inr.inr => have HGv : Hid (G = false) := hGv; clear hGv; obtain rfl := hw2 hk0; clear hw hw2; have hKd : decide ((K : Int) < 0) = false := by simp
  all_goals
    go_enter Tryd.func28, Tryd.ntmps28
    go_wp2_with (first
      | (go_at_call 36; refine (Tryd.strings_HasPrefix _ _ _).mono ?_; rintro e w' ⟨rfl, rfl⟩; rw [hasPrefix_neg, HB.out])
      | (go_at_call 37; refine (Tryd.strings_TrimPrefix _ _ _).mono ?_; rintro e w' ⟨rfl, rfl⟩; rw [trimPrefix_mag, HM.out]))
    clear hrun
    obtain ⟨g, hg⟩ : ∃ g, g = w'.heap.size := ⟨_, rfl⟩
    rw [← hg] at hrow hbel hsz ⊢
    have HG : Hid (g = w'.heap.size) := hg
    clear hg HB HM h0 h1
    go_loopw [7, 9, 10] (fun v cv i wr => ∃ (n p st c : Nat) (b : List UInt8), n + p = m.length ∧ v = .int .u64 (st : Int) ∧ cv = .int .i64 (c : Int) ∧ i = .int .i64 ((n : Int) - 1) ∧ c ≤ 1 ∧ st = K / 10 ^ p ∧ b.length = m.length ∧ Pl.AllD b ∧ Inv G (Pl.val m) K p c st (Pl.val b) ∧ Row wr g b ∧ Below g w' wr)
      (fun _ _ i _ => (intOf i + 1).toNat)
    case atStart => exact ⟨m.length, 0, K, 0, m, rfl, rfl, rfl, rfl, by omega, by simp, rfl, hmd, by simp [Inv], hrow, hbel⟩
    case round =>
      obtain ⟨n, p, st, c, b, hnp, rfl, rfl, rfl, hc1, hst, hlen, hbd, hinv, hr, hbw⟩ := hrel
      have HL : Hid (b.length = m.length) := hlen
      have HS : Hid (st = K / 10 ^ p) := hst
      have HNP : Hid (n + p = m.length) := hnp
      have hstb : (st : Int) ≤ 9223372036854775808 := by
        have : st ≤ K := by rw [hst]; exact Nat.div_le_self _ _
        omega
      clear hlen hst hnp hrow hbel hsz
      cases n with
      | zero =>
        rw [show ((0 : Nat) : Int) - 1 = -1 from rfl]
        obtain rfl : st = 0 := by
          have h1 := HNP.out
          rw [HS.out]
          exact spent hmd (by omega) rfl hk
        obtain rfl | rfl : c = 0 ∨ c = 1 := by omega
        · have e := inv_end hinv hbd HN.out HN0.out
          have hlb : (Lib.decDigits N).length ≤ 2097152 := by
            have h1 := Pl.strip_len b
            have h2 := HL.out
            rw [e] at h1
            omega
          have hstr := string_of wr g cap b m.length HL.out.symm hr
          have hadd45 := add_str [45] (Lib.decDigits N) (by simp; omega)
          have HE : Hid (Pl.strip b = Lib.decDigits N) := e
          clear e
          go_wp2_with (go_at_call 38; refine (trimLeft0 _ _).mono ?_; rintro e w2 ⟨rfl, rfl⟩; rw [HE.out])
          go_ret
          exact ⟨ret_str (by simp [Pl.txt]), HG.out ▸ hbw⟩
        · have e := inv_over hinv hbd (by have h1 := HNP.out; have h2 := HL.out; omega) hk HN.out
          have hlb : b.length ≤ 2097152 := by have h2 := HL.out; omega
          have hstr := string_of wr g cap b m.length HL.out.symm hr
          have hadd49 := add_str [49] b (by simp; omega)
          have hadd45 := add_str [45] (49 :: b) (by simp; omega)
          have HE : Hid ((49 : UInt8) :: b = Lib.decDigits N) := e
          clear e
          go_wp2_with (go_at_call 38; refine (trimLeft0 _ _).mono ?_; rintro e w2 ⟨rfl, rfl⟩)
          go_ret
          exact ⟨ret_str (by simp [Pl.txt, ← HE.out]), HG.out ▸ hbw⟩
      | succ n =>
        rw [show ((n + 1 : Nat) : Int) - 1 = (n : Int) by omega]
        obtain ⟨o, ho⟩ := get_some b n (by have := HL.out; have := HNP.out; omega)
        have hcell := hr.at ho
        have hfr := hr.free ho
        have hnl : n < m.length := by have := HNP.out; omega
        have hod := allD_at hbd ho
        have hod1 : 48 ≤ (o.toNat : Int) := by omega
        have hod2 : (o.toNat : Int) ≤ 57 := by omega
        have HO : Hid (b[n]? = some o) := ho
        clear ho
        by_cases hgo : 0 < st
        · have hgo' : decide (0 < (st : Int)) = true := by simp; omega
          go_wp2
          all_goals
            go_roundw
            case rel => first
              | exact rel_close 1 _ 1 rfl (by omega) (by omega) (by omega) (by rw [HGv.out]; simp; omega) HNP.out HS.out HL.out hbd hod.1 hinv hr hbw HO.out
              | exact rel_close 0 _ 0 rfl (by omega) (by omega) (by omega) (by rw [HGv.out]; simp; omega) HNP.out HS.out HL.out hbd hod.1 hinv hr hbw HO.out
            case measure => simp [intOf]
        · have hgo' : decide (0 < (st : Int)) = false := by simp; omega
          by_cases hgc : 0 < c
          · have hgc' : decide (0 < (c : Int)) = true := by simp; omega
            go_wp2
            all_goals
              go_roundw
              case rel => first
                | exact rel_close 1 _ 1 rfl (by omega) (by omega) (by omega) (by rw [HGv.out]; simp; omega) HNP.out HS.out HL.out hbd hod.1 hinv hr hbw HO.out
                | exact rel_close 0 _ 0 rfl (by omega) (by omega) (by omega) (by rw [HGv.out]; simp; omega) HNP.out HS.out HL.out hbd hod.1 hinv hr hbw HO.out
              case measure => simp [intOf]
          · obtain rfl : st = 0 := by omega
            obtain rfl : c = 0 := by omega
            clear hgo hgc hgo'
            have e := inv_end hinv hbd HN.out HN0.out
            have hlb : (Lib.decDigits N).length ≤ 2097152 := by
              have h1 := Pl.strip_len b
              have h2 := HL.out
              rw [e] at h1
              omega
            have hstr := string_of wr g cap b m.length HL.out.symm hr
            have hadd45 := add_str [45] (Lib.decDigits N) (by simp; omega)
            have HE : Hid (Pl.strip b = Lib.decDigits N) := e
            clear e
            go_wp2_with (go_at_call 38; refine (trimLeft0 _ _).mono ?_; rintro e w2 ⟨rfl, rfl⟩; rw [HE.out])
            go_ret
            exact ⟨ret_str (by simp [Pl.txt]), HG.out ▸ hbw⟩
end Go.Proofs.Qxb6602256aDoor
