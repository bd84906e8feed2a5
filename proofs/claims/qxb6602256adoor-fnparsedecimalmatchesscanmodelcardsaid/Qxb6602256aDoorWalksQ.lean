/-
  zzFormatUint.
-/
import Derived.Test.Qxb6602256aDoorWalksC
import Derived.Test.Qxb6602256aDoorPlainL
namespace Go.Proofs.Qxb6602256aDoor
open Go.RowKit

/-- 'string(b[n:])'. -/
theorem string_from (w : World) (g n cap k : Nat) (l : List UInt8) (hk : k = (l.drop n).length) (h : Row w g l) : (convert 40 9 (.slice (some ⟨g, n, none⟩) k cap)).run Tryd.prog w = .ok (.string ⟨(l.drop n).toArray⟩) w := by
  subst hk
  refine run_convert_bytes_back w 40 9 5 ⟨g, n, none⟩ cap (l.drop n) Tryd.underlying40 Tryd.underlying5 Tryd.underlying9 (fun j hj => ?_)
  have e : (⟨g, n, none⟩ : Addr).add j = ⟨g, n + j, none⟩ := by
    unfold Addr.add
    by_cases h0 : j = 0 <;> simp [h0]
  have hj' : n + j < l.length := by rw [List.length_drop] at hj; omega
  rw [e, h.1 (n + j) hj']
  simp

theorem slice52 (g n : Nat) (hn : n < 20) (w : World) : (Instr.sliceAt 52 (.pointer (some ⟨g, 0, none⟩)) (some (.int .i64 (n : Int))) none none).run Tryd.prog w = .ok (.slice (some ⟨g, n, none⟩) (20 - n) (20 - n)) w := by
  have hal : Tryd.prog.arrayLen 52 = 20 := by simp [Program.arrayLen, Tryd.underlying52]
  rw [run_sliceAt_array_l w 52 ⟨g, 0, none⟩ (by simp [Program.arrayLen, Program.elem, Tryd.underlying52]) .i64 (n : Int) (by omega) (by rw [hal]; omega), hal]
  have hne : ¬ 20 = n := by omega
  have he : Tryd.prog.elem 52 = 5 := by simp [Program.elem, Tryd.underlying52]
  rw [he]
  simp [go_sem, hne, slicedAt]

theorem fmt_end {r : List UInt8} {V p : Nat} (hd : Pl.AllD r) (hv : Pl.val r = V) (hl : r.length = p) (hp : 0 < p) (h : 10 ^ (p - 1) ≤ V) : r = Lib.decDigits V := by
  rw [← hv]
  refine Pl.dec_of hd (fun e => by rw [e] at hl; simp at hl; omega) (fun e => ?_)
  cases r with
  | nil => simp at e
  | cons c t =>
    simp at e hl
    subst e
    rw [Pl.val_cons] at hv
    have := Pl.val_lt hd.tail
    rw [show t.length = p - 1 by omega] at this
    simp at hv
    omega

set_option maxRecDepth 100000 in
set_option maxHeartbeats 1000000 in
theorem fmtUint_any (V : Nat) (w : World) (hV : V ≤ 18446744073709551615) :
    Calls Tryd.prog 34 #[.int .u64 V] w fun e w' => e = .returned (.string ⟨(Lib.decDigits V).toArray⟩) ∧ Below w.heap.size w w' := by
  by_cases h0 : V = 0
  · subst h0
    go_enter Tryd.func34, Tryd.ntmps34
    go_wp2
    go_ret
    exact ⟨ret_str (by rw [Lib.decDigits, dif_pos (by decide)]; rfl), Below.refl _ _⟩
  · have hb0 : ((V : Int) == 0) = false := by rw [beq_eq_false_iff_ne]; omega
    go_enter Tryd.func34, Tryd.ntmps34
    go_wp2
    go_loopw [0, 4] (fun v i wr => ∃ (n p : Nat) (b : List UInt8), n + p = 20 ∧ i = .int .i64 (n : Int) ∧ v = .int .u64 ((V / 10 ^ p : Nat) : Int) ∧ b.length = 20 ∧ (Pl.AllD (b.drop n) ∧ Pl.val (b.drop n) = V % 10 ^ p) ∧ (0 < p → 10 ^ (p - 1) ≤ V) ∧ Row wr w.heap.size b ∧ Below w.heap.size w wr)
      (fun _ i _ => (intOf i).toNat)
    case atStart =>
      refine ⟨20, 0, List.replicate 20 0, rfl, rfl, by simp, rfl, ⟨Pl.AllD.nil, by simp [Pl.val, Nat.mod_one]⟩, fun h => absurd h (by omega), row_alloc w 52 (List.replicate 20 0), (Below.refl _ _).alloc (Nat.le_refl _) _⟩
    case round =>
      obtain ⟨n, p, b, hnp, rfl, rfl, hlen, hv, hlow, hr, hbw⟩ := hrel
      have HL : Hid (b.length = 20) := hlen
      have HV : Hid (Pl.AllD (b.drop n) ∧ Pl.val (b.drop n) = V % 10 ^ p) := hv
      have HN : Hid (n + p = 20) := hnp
      have HLOW : Hid (0 < p → 10 ^ (p - 1) ≤ V) := hlow
      clear hlen hv hnp hlow
      obtain ⟨q, hq⟩ : ∃ q, q = V / 10 ^ p := ⟨_, rfl⟩
      have hqV : q ≤ V := by rw [hq]; exact Nat.div_le_self _ _
      rw [← hq]
      have HQ : Hid (q = V / 10 ^ p) := hq
      clear hq
      by_cases hq0 : 0 < q
      · have hpV : 10 ^ p ≤ V := by
          have h1 := HQ.out
          rcases Nat.lt_or_ge V (10 ^ p) with h2 | h2
          · rw [Nat.div_eq_of_lt h2] at h1; omega
          · exact h2
        have hn0 : 0 < n := by
          have h1 := HN.out
          rcases Nat.eq_zero_or_pos n with h2 | h2
          · have : p = 20 := by omega
            rw [this] at hpV
            omega
          · exact h2
        have HPV : Hid (10 ^ p ≤ V) := hpV
        clear hpV
        obtain ⟨m, rfl⟩ : ∃ m, n = m + 1 := ⟨n - 1, by omega⟩
        obtain ⟨c, hc⟩ := get_some b m (by have := HL.out; have := HN.out; omega)
        have hcell := hr.at hc
        have hfr := hr.free hc
        have hm : m < 20 := by have := HN.out; omega
        have hmm : ((m + 1 : Nat) : Int) - 1 = (m : Int) := by omega
        clear hc
        go_wp2
        go_roundw
        case rel =>
          have hde := Pl.digit_toNat (show q % 10 < 10 by omega)
          have h1 := HQ.out
          have h2 := HL.out
          have h3 := HN.out
          refine ⟨m, p + 1, b.set m (UInt8.ofNat (48 + q % 10)), by omega, rfl, ?_, by simpa using h2, pad_step (by omega) HV.out (by rw [List.length_drop]; omega) (by rw [hde, h1]), fun _ => HPV.out,
            hr.set m (by omega) (UInt8.ofNat (48 + q % 10)) _ (by rw [hde]; omega), hbw.setCell (Nat.le_refl _) _⟩
          rw [Nat.pow_succ, ← Nat.div_div_eq_div_mul, ← h1]
          rfl
        case measure => simp [intOf]
      · obtain rfl : q = 0 := by omega
        have hn20 : n < 20 := by
          have h1 := HN.out
          rcases Nat.eq_zero_or_pos p with h2 | h2
          · have h3 := HQ.out
            rw [h2] at h3
            simp at h3
            omega
          · omega
        have hsl := fun W => slice52 w.heap.size n hn20 W
        have hstr := string_from wr w.heap.size n (20 - n) (20 - n) b (by rw [List.length_drop, HL.out]) hr
        go_wp2
        go_ret
        refine ⟨ret_str ?_, hbw⟩
        have h1 := HV.out
        have h2 := HL.out
        have h3 := HN.out
        have h4 : V < 10 ^ p := by
          have := HQ.out
          rcases Nat.lt_or_ge V (10 ^ p) with h5 | h5
          · exact h5
          · have := Nat.div_pos h5 (Pl.pow_pos10 p)
            omega
        rw [Nat.mod_eq_of_lt h4] at h1
        rw [← fmt_end h1.1 h1.2 (p := p) (by rw [List.length_drop]; omega) (by omega) (HLOW.out (by omega))]
end Go.Proofs.Qxb6602256aDoor
