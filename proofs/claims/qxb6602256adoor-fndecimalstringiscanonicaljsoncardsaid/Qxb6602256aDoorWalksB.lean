/-
  The walks of the functions that write digits into a row of bytes of their own.
-/
import Derived.Test.Qxb6602256aDoorWalksA
import Derived.Laws.IdiomStrings
namespace Go.Proofs.Qxb6602256aDoor
open Go.RowKit

/-! ### A row of bytes of the call's own -/
/-- The block g holds the bytes l, and each may be written. -/
def Row (w : World) (g : Nat) (l : List UInt8) : Prop :=
  (∀ j (h : j < l.length), w.cell? ⟨g, j, none⟩ = some (.int .u8 (l[j].toNat : Int))) ∧ ∀ j, j < l.length → w.frozen? ⟨g, j, none⟩ = false

theorem Row.set {w : World} {g : Nat} {l : List UInt8} (h : Row w g l) (i : Nat) (hi : i < l.length) (c : UInt8) (z : Int) (hz : z = (c.toNat : Int)) : Row (w.setCell ⟨g, i, none⟩ (.int .u8 z)) g (l.set i c) := by
  subst hz
  refine ⟨fun j hj => ?_, fun j hj => ?_⟩
  · by_cases e : i = j
    · subst e
      rw [World.cell?_setCell_same _ _ _ (h.1 i hi)]
      simp
    · rw [World.cell?_setCell_other _ _ _ _ (by intro h; cases h; exact e rfl), h.1 j (by simpa using hj), List.getElem_set_ne e]
  · rw [World.frozen?_setCell]
    exact h.2 j (by simpa using hj)

theorem Row.below {w w' : World} {g B : Nat} {l : List UInt8} (h : Row w g l) (hb : Below B w w') (hg : g < B) : Row w' g l :=
  ⟨fun j hj => by rw [hb.cell (p := ⟨g, j, none⟩) hg]; exact h.1 j hj, fun j hj => by rw [hb.frozen (p := ⟨g, j, none⟩) hg]; exact h.2 j hj⟩

/-- '[]byte(s)'. -/
theorem bytes_of (w : World) (s : ByteArray) : ∃ cap w1, (convert 9 40 (.string s)).run Tryd.prog w = .ok (.slice (some ⟨w.heap.size, 0, none⟩) s.size cap) w1 ∧
    Row w1 w.heap.size s.data.toList ∧ Below w.heap.size w w1 ∧ w.heap.size < w1.heap.size := by
  refine ⟨_, _, run_bytes_of_string w 9 40 5 s Tryd.underlying9 Tryd.underlying40 Tryd.underlying5, ⟨fun j hj => ?_, fun j hj => ?_⟩, ?_, ?_⟩
  · have := World.cell?_alloc_mark w.drew (bytesRow s (grownCap w s.size 0 5)) 5 ((bytesRow s (grownCap w s.size 0 5)).size, (bytesRow s (grownCap w s.size 0 5)).size + 1) j
    refine Eq.trans this ?_
    rw [bytesRow_at s _ j (by simpa using hj)]
    simp
  · have := World.frozen?_alloc_mark w.drew (bytesRow s (grownCap w s.size 0 5)) 5 (bytesRow s (grownCap w s.size 0 5)).size ((bytesRow s (grownCap w s.size 0 5)).size + 1) j
    refine Eq.trans this ?_
    have hsz : s.data.size ≤ (bytesRow s (grownCap w s.size 0 5)).size := by simp [bytesRow]
    have : ¬ (bytesRow s (grownCap w s.size 0 5)).size ≤ j := by have e : s.size = s.data.size := rfl; rw [← size_list] at hj; omega
    simp [this]
  · exact ((Below.refl _ _).drew).alloc (Nat.le_refl _) _
  · show _ < (w.heap.push _).size
    simp

/-- 'string(b)'. -/
theorem string_of (w : World) (g cap : Nat) (l : List UInt8) (n : Nat) (hn : n = l.length) (h : Row w g l) : (convert 40 9 (.slice (some ⟨g, 0, none⟩) n cap)).run Tryd.prog w = .ok (.string ⟨l.toArray⟩) w := by
  subst hn
  refine run_convert_bytes_back w 40 9 5 ⟨g, 0, none⟩ cap l Tryd.underlying40 Tryd.underlying5 Tryd.underlying9 (fun j hj => ?_)
  have e : (⟨g, 0, none⟩ : Addr).add j = ⟨g, j, none⟩ := by
    unfold Addr.add
    by_cases h0 : j = 0 <;> simp [h0]
  rw [e]
  exact h.1 j hj

/-- '+' on strings. -/
theorem add_str (x y : List UInt8) (h : x.length + y.length ≤ 9223372036854775807) (w : World) : Sem.run Tryd.prog (Op.stringOp .add ⟨x.toArray⟩ ⟨y.toArray⟩) w = .ok (.string ⟨(x ++ y).toArray⟩) w := by
  rw [run_string_add_sum w _ _ (by rw [size_list, size_list]; exact h), ByteArray.mk_append_mk]

/-- A new row. -/
theorem row_alloc (w : World) (t : TypeId) (l : List UInt8) : Row (w.alloc (.cells (l.map (fun c => Value.int .u8 (c.toNat : Int))).toArray t)) w.heap.size l := by
  refine ⟨fun j hj => ?_, fun j hj => ?_⟩
  · rw [World.cell?_alloc_mark]
    simp [hj]
  · rw [World.frozen?_alloc_mark]
    simp

/-! ### A digit set -/
theorem val_set (l : List UInt8) : ∀ (i p : Nat) (_ : i + p + 1 = l.length) (o c : UInt8), l[i]? = some o → Pl.val (l.set i c) + (o.toNat - 48) * 10 ^ p = Pl.val l + (c.toNat - 48) * 10 ^ p := by
  induction l with
  | nil => intro i p hi; simp at hi
  | cons x l ih =>
    intro i p hi o c ho
    cases i with
    | zero =>
      simp only [List.getElem?_cons_zero, Option.some.injEq] at ho
      simp only [List.length_cons] at hi
      subst ho
      simp only [List.set_cons_zero]
      rw [Pl.val_cons, Pl.val_cons, show l.length = p by omega]
      omega
    | succ i =>
      simp only [List.getElem?_cons_succ] at ho
      simp only [List.length_cons] at hi
      have := ih i p (by omega) o c ho
      simp only [List.set_cons_succ]
      rw [Pl.val_cons, Pl.val_cons, List.length_set]
      omega
theorem allD_set {l : List UInt8} (h : Pl.AllD l) (i : Nat) {c : UInt8} (hc : 48 ≤ c.toNat ∧ c.toNat ≤ 57) : Pl.AllD (l.set i c) := fun x hx => by
  rcases List.mem_or_eq_of_mem_set hx with h1 | h1
  · exact h x h1
  · subst h1; exact hc
theorem allD_at {l : List UInt8} (h : Pl.AllD l) {i : Nat} {c : UInt8} (hc : l[i]? = some c) : 48 ≤ c.toNat ∧ c.toNat ≤ 57 := h c (List.mem_of_getElem? hc)
theorem Row.at {w : World} {g : Nat} {l : List UInt8} (h : Row w g l) {i : Nat} {c : UInt8} (hc : l[i]? = some c) : w.cell? ⟨g, i, none⟩ = some (.int .u8 (c.toNat : Int)) := by
  obtain ⟨hi, e⟩ := List.getElem?_eq_some_iff.1 hc
  rw [h.1 i hi, e]
theorem Row.free {w : World} {g : Nat} {l : List UInt8} (h : Row w g l) {i : Nat} {c : UInt8} (hc : l[i]? = some c) : w.frozen? ⟨g, i, none⟩ = false :=
  h.2 i (List.getElem?_eq_some_iff.1 hc).1
theorem get_some (l : List UInt8) (i : Nat) (h : i < l.length) : ∃ c, l[i]? = some c := ⟨l[i], List.getElem?_eq_getElem h⟩

/-! ### zzIncDigits -/
theorem inc_step {b : List UInt8} {V m p : Nat} (hlen : m + p + 1 = b.length) (hv : Pl.val b + 10 ^ p = V + 1) (h57 : b[m]? = some 57) : Pl.val (b.set m 48) + 10 ^ (p + 1) = V + 1 := by
  have := val_set b m p hlen 57 48 h57
  simp only [show (57 : UInt8).toNat = 57 from rfl, show (48 : UInt8).toNat = 48 from rfl] at this
  rw [Nat.pow_succ]
  omega
theorem inc_last {b : List UInt8} {V m p : Nat} (hlen : m + p + 1 = b.length) (hv : Pl.val b + 10 ^ p = V + 1) {o c : UInt8} (ho : b[m]? = some o) (h48 : 48 ≤ o.toNat) (hc : c.toNat = o.toNat + 1) : Pl.val (b.set m c) = V + 1 := by
  have := val_set b m p hlen o c ho
  rw [hc, show o.toNat + 1 - 48 = (o.toNat - 48) + 1 by omega, Nat.add_mul] at this
  omega

set_option maxRecDepth 100000 in
set_option maxHeartbeats 1000000 in
theorem inc_any (s : ByteArray) (w : World) (hs : s.size ≤ 1048576) (hd : Pl.AllD s.data.toList) :
    Calls Tryd.prog 29 #[.string s] w fun e w' => ∃ r : List UInt8, e = .returned (.string ⟨r.toArray⟩) ∧ Pl.AllD r ∧ Pl.val r = Pl.val s.data.toList + 1 ∧ r.length ≤ s.size + 1 ∧ Below w.heap.size w w' := by
  obtain ⟨cap, w1, hrun, hrow, hbel, hsz⟩ := bytes_of w s
  go_enter Tryd.func29, Tryd.ntmps29
  go_wp2
  clear hrun
  go_loopw [4] (fun i wr => ∃ (n p : Nat) (b : List UInt8), n + p = s.size ∧ i = .int .i64 ((n : Int) - 1) ∧ b.length = s.size ∧ Pl.AllD b ∧ Pl.val b + 10 ^ p = Pl.val s.data.toList + 1 ∧ Row wr w.heap.size b ∧ Below w.heap.size w wr)
    (fun i _ => (intOf i + 1).toNat)
  case atStart => exact ⟨s.size, 0, s.data.toList, rfl, rfl, (size_list s).symm, hd, rfl, hrow, hbel⟩
  case round =>
    obtain ⟨n, p, b, hnp, rfl, hlen, hbd, hv, hr, hbw⟩ := hrel
    have HL : Hid (b.length = s.size) := hlen
    have HV : Hid (Pl.val b + 10 ^ p = Pl.val s.data.toList + 1) := hv
    have HN : Hid (n + p = s.size) := hnp
    clear hlen hv hnp hrow hbel hsz
    cases n with
    | zero =>
      have hstr := string_of wr w.heap.size cap b s.size HL.out.symm hr
      have hadd := add_str [49] b (by have := HL.out; simp; omega)
      go_wp2
      go_ret
      refine ⟨49 :: b, ret_str (by simp), Pl.AllD.cons (by decide) hbd, ?_, by have := HL.out; simp; omega, hbw⟩
      have h1 := HV.out
      have h2 := HL.out
      have h3 := HN.out
      rw [Pl.val_cons, h2, ← h3, Nat.zero_add, show (49 : UInt8).toNat - 48 = 1 from rfl]
      omega
    | succ m =>
      rw [show ((m + 1 : Nat) : Int) - 1 = (m : Int) by omega]
      obtain ⟨c, hc⟩ := get_some b m (by have := HL.out; have := HN.out; omega)
      have hcell := hr.at hc
      have hfr := hr.free hc
      have hm : m < s.size := by have := HN.out; omega
      have hcd := allD_at hbd hc
      have HC : Hid (b[m]? = some c) := hc
      clear hc
      by_cases h57 : c = 57
      · have hb : ((c.toNat : Int) == 57) = true := by rw [h57]; rfl
        have H57 : Hid (c = 57) := h57
        clear h57
        go_wp2
        go_roundw
        case rel =>
          refine ⟨m, p + 1, b.set m 48, by have := HN.out; omega, rfl, by have := HL.out; simpa using this, allD_set hbd m (by decide), ?_, hr.set m (by have := HL.out; omega) 48 48 rfl, hbw.setCell (Nat.le_refl _) _⟩
          exact inc_step (by have := HN.out; have := HL.out; omega) HV.out (by rw [HC.out, H57.out])
        case measure => simp [intOf]
      · have hb : ((c.toNat : Int) == 57) = false := by
          rw [Bool.eq_false_iff]
          intro e
          exact h57 (beq_byte.1 (by simpa using e))
        have hc56 : c.toNat ≤ 56 := by
          have : c.toNat ≠ 57 := fun e => h57 (UInt8.toNat_inj.1 e)
          omega
        have hb1 : (c.toNat : Int) ≤ 56 := by omega
        obtain ⟨d, hde⟩ : ∃ d : UInt8, d.toNat = c.toNat + 1 := ⟨UInt8.ofNat (c.toNat + 1), by rw [UInt8.toNat_ofNat']; omega⟩
        have hr2 := hr.set m (by have := HL.out; omega) d ((c.toNat : Int) + 1) (by rw [hde]; omega)
        have hstr := string_of _ w.heap.size cap (b.set m d) s.size (by have := HL.out; simp; omega) hr2
        have HDE : Hid (d.toNat = c.toNat + 1) := hde
        clear hde
        go_wp2
        go_ret
        refine ⟨b.set m d, rfl, allD_set hbd m (by rw [HDE.out]; omega), ?_, by have := HL.out; simp; omega, hbw.setCell (Nat.le_refl _) _⟩
        exact inc_last (by have := HN.out; have := HL.out; omega) HV.out HC.out hcd.1 HDE.out
/-! ### zzDecDigits -/
theorem dec_step {b : List UInt8} {V m p : Nat} (hlen : m + p + 1 = b.length) (hv : Pl.val b + 1 = V + 10 ^ p) (h48 : b[m]? = some 48) : Pl.val (b.set m 57) + 1 = V + 10 ^ (p + 1) := by
  have := val_set b m p hlen 48 57 h48
  simp only [show (57 : UInt8).toNat = 57 from rfl, show (48 : UInt8).toNat = 48 from rfl] at this
  rw [Nat.pow_succ]
  omega
theorem dec_last {b : List UInt8} {V m p : Nat} (hlen : m + p + 1 = b.length) (hv : Pl.val b + 1 = V + 10 ^ p) {o c : UInt8} (ho : b[m]? = some o) (h48 : 49 ≤ o.toNat) (hc : c.toNat + 1 = o.toNat) : Pl.val (b.set m c) + 1 = V := by
  have := val_set b m p hlen o c ho
  rw [← hc, show c.toNat + 1 - 48 = (c.toNat - 48) + 1 by omega, Nat.add_mul] at this
  omega

set_option maxRecDepth 100000 in
set_option maxHeartbeats 1000000 in
theorem dec_any (s : ByteArray) (w : World) (hs : s.size ≤ 1048576) (hd : Pl.AllD s.data.toList) (hpos : 0 < Pl.val s.data.toList) :
    Calls Tryd.prog 30 #[.string s] w fun e w' => ∃ r : List UInt8, e = .returned (.string ⟨r.toArray⟩) ∧ Pl.AllD r ∧ Pl.val r + 1 = Pl.val s.data.toList ∧ r.length ≤ s.size + 1 ∧ Below w.heap.size w w' := by
  obtain ⟨cap, w1, hrun, hrow, hbel, hsz⟩ := bytes_of w s
  go_enter Tryd.func30, Tryd.ntmps30
  go_wp2
  clear hrun
  go_loopw [4] (fun i wr => ∃ (n p : Nat) (b : List UInt8), n + p = s.size ∧ i = .int .i64 ((n : Int) - 1) ∧ b.length = s.size ∧ Pl.AllD b ∧ Pl.val b + 1 = Pl.val s.data.toList + 10 ^ p ∧ Row wr w.heap.size b ∧ Below w.heap.size w wr)
    (fun i _ => (intOf i + 1).toNat)
  case atStart => exact ⟨s.size, 0, s.data.toList, rfl, rfl, (size_list s).symm, hd, rfl, hrow, hbel⟩
  case round =>
    obtain ⟨n, p, b, hnp, rfl, hlen, hbd, hv, hr, hbw⟩ := hrel
    have HL : Hid (b.length = s.size) := hlen
    have HV : Hid (Pl.val b + 1 = Pl.val s.data.toList + 10 ^ p) := hv
    have HN : Hid (n + p = s.size) := hnp
    clear hlen hv hnp hrow hbel hsz
    cases n with
    | zero =>
      exfalso
      have h1 := HV.out
      have h2 := HL.out
      have h3 := HN.out
      have h4 := Pl.val_lt hbd
      rw [h2, ← h3, Nat.zero_add] at h4
      omega
    | succ m =>
      rw [show ((m + 1 : Nat) : Int) - 1 = (m : Int) by omega]
      obtain ⟨c, hc⟩ := get_some b m (by have := HL.out; have := HN.out; omega)
      have hcell := hr.at hc
      have hfr := hr.free hc
      have hm : m < s.size := by have := HN.out; omega
      have hcd := allD_at hbd hc
      have HC : Hid (b[m]? = some c) := hc
      clear hc
      by_cases h48 : c = 48
      · have hb : ((c.toNat : Int) == 48) = true := by rw [h48]; rfl
        have H48 : Hid (c = 48) := h48
        clear h48
        go_wp2
        go_roundw
        case rel =>
          refine ⟨m, p + 1, b.set m 57, by have := HN.out; omega, rfl, by have := HL.out; simpa using this, allD_set hbd m (by decide), ?_, hr.set m (by have := HL.out; omega) 57 57 rfl, hbw.setCell (Nat.le_refl _) _⟩
          exact dec_step (by have := HN.out; have := HL.out; omega) HV.out (by rw [HC.out, H48.out])
        case measure => simp [intOf]
      · have hb : ((c.toNat : Int) == 48) = false := by
          rw [Bool.eq_false_iff]
          intro e
          exact h48 (beq_byte.1 (by simpa using e))
        have hc49 : 49 ≤ c.toNat := by
          have : c.toNat ≠ 48 := fun e => h48 (UInt8.toNat_inj.1 e)
          omega
        have hb1 : 49 ≤ (c.toNat : Int) := by omega
        have hb2 : (c.toNat : Int) ≤ 57 := by omega
        obtain ⟨d, hde⟩ : ∃ d : UInt8, d.toNat + 1 = c.toNat := ⟨UInt8.ofNat (c.toNat - 1), by rw [UInt8.toNat_ofNat']; omega⟩
        have hr2 := hr.set m (by have := HL.out; omega) d ((c.toNat : Int) - 1) (by omega)
        have hstr := string_of _ w.heap.size cap (b.set m d) s.size (by have := HL.out; simp; omega) hr2
        have HDE : Hid (d.toNat + 1 = c.toNat) := hde
        clear hde
        go_wp2
        go_ret
        refine ⟨b.set m d, rfl, allD_set hbd m (by have := HDE.out; omega), ?_, by have := HL.out; simp; omega, hbw.setCell (Nat.le_refl _) _⟩
        exact dec_last (by have := HN.out; have := HL.out; omega) HV.out HC.out hc49 HDE.out

/-! ### zzPad19 -/
theorem pad_step {b : List UInt8} {V m p : Nat} (hlen : m < b.length) (hv : Pl.AllD (b.drop (m + 1)) ∧ Pl.val (b.drop (m + 1)) = V % 10 ^ p) (hp : (b.drop (m + 1)).length = p) {c : UInt8} (hc : c.toNat = 48 + V / 10 ^ p % 10) :
    Pl.AllD ((b.set m c).drop m) ∧ Pl.val ((b.set m c).drop m) = V % 10 ^ (p + 1) := by
  have e : (b.set m c).drop m = c :: b.drop (m + 1) := by
    rw [List.drop_eq_getElem_cons (by simpa using hlen), List.getElem_set_self, List.drop_set_of_lt (by omega)]
  rw [e]
  refine ⟨Pl.AllD.cons (by omega) hv.1, ?_⟩
  rw [Pl.val_cons, hp, hv.2, Nat.pow_succ, Nat.mod_mul, show c.toNat - 48 = V / 10 ^ p % 10 by omega, Nat.mul_comm (10 ^ p)]
  omega

set_option maxRecDepth 100000 in
set_option maxHeartbeats 1000000 in
theorem pad_any (V : Nat) (w : World) (hV : V < 10000000000000000000) :
    Calls Tryd.prog 32 #[.int .u64 V] w fun e w' => ∃ r : List UInt8, e = .returned (.string ⟨r.toArray⟩) ∧ Pl.AllD r ∧ Pl.val r = V ∧ r.length = 19 ∧ Below w.heap.size w w' := by
  go_enter Tryd.func32, Tryd.ntmps32
  go_wp2
  go_loopw [0, 4] (fun v i wr => ∃ (n p : Nat) (b : List UInt8), n + p = 19 ∧ i = .int .i64 ((n : Int) - 1) ∧ v = .int .u64 ((V / 10 ^ p : Nat) : Int) ∧ b.length = 19 ∧ (Pl.AllD (b.drop n) ∧ Pl.val (b.drop n) = V % 10 ^ p) ∧ Row wr w.heap.size b ∧ Below w.heap.size w wr)
    (fun _ i _ => (intOf i + 1).toNat)
  case atStart =>
    refine ⟨19, 0, List.replicate 19 0, rfl, rfl, by simp, rfl, ⟨Pl.AllD.nil, by simp [Pl.val, Nat.mod_one]⟩, row_alloc w 44 (List.replicate 19 0), (Below.refl _ _).alloc (Nat.le_refl _) _⟩
  case round =>
    obtain ⟨n, p, b, hnp, rfl, rfl, hlen, hv, hr, hbw⟩ := hrel
    have HL : Hid (b.length = 19) := hlen
    have HV : Hid (Pl.AllD (b.drop n) ∧ Pl.val (b.drop n) = V % 10 ^ p) := hv
    have HN : Hid (n + p = 19) := hnp
    clear hlen hv hnp
    cases n with
    | zero =>
      have hstr := string_of wr w.heap.size 19 b 19 HL.out.symm hr
      go_wp2
      go_ret
      have h1 := HV.out
      have h3 := HN.out
      rw [List.drop_zero] at h1
      refine ⟨b, rfl, h1.1, ?_, HL.out, hbw⟩
      rw [h1.2]
      obtain rfl : p = 19 := by omega
      exact Nat.mod_eq_of_lt hV
    | succ m =>
      rw [show ((m + 1 : Nat) : Int) - 1 = (m : Int) by omega]
      obtain ⟨q, hq⟩ : ∃ q, q = V / 10 ^ p := ⟨_, rfl⟩
      have hqV : q ≤ V := by rw [hq]; exact Nat.div_le_self _ _
      rw [← hq]
      have HQ : Hid (q = V / 10 ^ p) := hq
      clear hq
      obtain ⟨c, hc⟩ := get_some b m (by have := HL.out; have := HN.out; omega)
      have hcell := hr.at hc
      have hfr := hr.free hc
      have hm : m < 19 := by have := HN.out; omega
      clear hc
      go_wp2
      go_roundw
      case rel =>
        have hde := Pl.digit_toNat (show q % 10 < 10 by omega)
        have h1 := HQ.out
        have h2 := HL.out
        have h3 := HN.out
        refine ⟨m, p + 1, b.set m (UInt8.ofNat (48 + q % 10)), by omega, rfl, ?_, by simpa using h2, pad_step (by omega) HV.out (by rw [List.length_drop]; omega) (by rw [hde, h1]),
          hr.set m (by omega) (UInt8.ofNat (48 + q % 10)) _ (by rw [hde]; omega), hbw.setCell (Nat.le_refl _) _⟩
        rw [Nat.pow_succ, ← Nat.div_div_eq_div_mul, ← h1]
        rfl
      case measure => simp [intOf]

end Go.Proofs.Qxb6602256aDoor
