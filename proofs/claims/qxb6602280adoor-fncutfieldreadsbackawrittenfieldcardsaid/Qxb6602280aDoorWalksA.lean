/-
  The walks of the small functions.
-/
import Derived.Test.Qxb6602280aDoorRows
import Derived.WalkKit
import Derived.Lib.Strings
import Derived.WalkSpells
import Derived.WalkLawsBesides
import Derived.Handy
import Derived.PlainAid
import Derived.Deep.DeepCutAuto
import Derived.Deep.CutBlock
namespace Go.Proofs.Qxb6602280aDoor
open Go.RowKit

theorem ret_int {k : IntKind} {a b : Int} (h : a = b) : Ending.returned (.int k a) = .returned (.int k b) := by rw [h]
theorem ret_bool {a b : Bool} (h : a = b) : Ending.returned (.bool a) = .returned (.bool b) := by rw [h]
theorem size_list (s : ByteArray) : s.size = s.data.toList.length := by rw [Array.length_toList]; rfl
theorem mk_list (s : ByteArray) : (⟨s.data.toList.toArray⟩ : ByteArray) = s := by cases s; simp
theorem head_list (s : ByteArray) (h : 0 < s.size) : s.data.toList.head? = some s[0] := by
  rw [List.head?_eq_getElem?, List.getElem?_eq_getElem (by rw [← size_list]; exact h)]
  rfl
theorem beq_byte {c : UInt8} {n : UInt8} : (((c.toNat : Int) == (n.toNat : Int)) = true) ↔ c = n := by
  rw [beq_iff_eq]
  constructor
  · intro h; exact UInt8.toNat_inj.1 (by omega)
  · rintro rfl; rfl
theorem beqv_no {c : UInt8} {n : UInt8} (h : c ≠ n) : ((c.toNat : Int) == (n.toNat : Int)) = false := by
  rw [Bool.eq_false_iff, ne_eq, beq_byte]; exact h
theorem beqv_yes {c : UInt8} {n : UInt8} (h : c = n) : ((c.toNat : Int) == (n.toNat : Int)) = true := beq_byte.2 h
theorem below_then {a b c : World} (h : Below a.heap.size a b) (k : Below b.heap.size b c) : Below a.heap.size a c := h.trans (k.mono h.size)

/-- It answers some Boolean; where that is true, Q; the world is as it was. -/
def Told (Q : Prop) (w : World) (e : Ending) (w' : World) : Prop := ∃ b, e = .returned (.bool b) ∧ (b = true → Q) ∧ w' = w
theorem Told.no {Q : Prop} {w : World} : Told Q w (.returned (.bool false)) w := ⟨false, rfl, fun h => Bool.noConfusion h, rfl⟩
theorem Told.of {Q : Prop} {w : World} {b : Bool} (h : b = true → Q) : Told Q w (.returned (.bool b)) w := ⟨b, rfl, h, rfl⟩

/-- An ASCII blank. -/
def blank (c : UInt8) : Bool := c == 32 || c == 9 || c == 10 || c == 11 || c == 12 || c == 13
/-- Printable ASCII. -/
def Pr (c : UInt8) : Prop := 33 ≤ c.toNat ∧ c.toNat ≤ 126
/-- Empty, or printable at both ends. -/
def Edges (l : List UInt8) : Prop := l = [] ∨ ((∃ a, l.head? = some a ∧ Pr a) ∧ ∃ z, l.getLast? = some z ∧ Pr z)

set_option maxHeartbeats 1000000 in
theorem blank_any (c : UInt8) (w : World) :
    Calls Tryd.prog 16 #[.int .u8 (c.toNat : Int)] w fun e w' => e = .returned (.bool (blank c)) ∧ w' = w := by
  by_cases h1 : c = 32
  · subst h1
    go_enter Tryd.func16, Tryd.ntmps16
    go_wp2
    go_ret
    exact ⟨rfl, rfl⟩
  have b1 : ((c.toNat : Int) == 32) = false := beqv_no (n := 32) h1
  by_cases h2 : c = 9
  · subst h2
    go_enter Tryd.func16, Tryd.ntmps16
    go_wp2
    go_ret
    exact ⟨rfl, rfl⟩
  have b2 : ((c.toNat : Int) == 9) = false := beqv_no (n := 9) h2
  by_cases h3 : c = 10
  · subst h3
    go_enter Tryd.func16, Tryd.ntmps16
    go_wp2
    go_ret
    exact ⟨rfl, rfl⟩
  have b3 : ((c.toNat : Int) == 10) = false := beqv_no (n := 10) h3
  by_cases h4 : c = 11
  · subst h4
    go_enter Tryd.func16, Tryd.ntmps16
    go_wp2
    go_ret
    exact ⟨rfl, rfl⟩
  have b4 : ((c.toNat : Int) == 11) = false := beqv_no (n := 11) h4
  by_cases h5 : c = 12
  · subst h5
    go_enter Tryd.func16, Tryd.ntmps16
    go_wp2
    go_ret
    exact ⟨rfl, rfl⟩
  have b5 : ((c.toNat : Int) == 12) = false := beqv_no (n := 12) h5
  by_cases h6 : c = 13
  · subst h6
    go_enter Tryd.func16, Tryd.ntmps16
    go_wp2
    go_ret
    exact ⟨rfl, rfl⟩
  have b6 : ((c.toNat : Int) == 13) = false := beqv_no (n := 13) h6
  have HB : Hid (blank c = false) := by show _ = _; simp [blank, h1, h2, h3, h4, h5, h6]
  clear h1 h2 h3 h4 h5 h6
  go_enter Tryd.func16, Tryd.ntmps16
  go_wp2
  go_ret
  exact ⟨ret_bool HB.out.symm, rfl⟩

set_option maxHeartbeats 400000 in
theorem pr_any (c : Int) (w : World) :
    Calls Tryd.prog 22 #[.int .u8 c] w fun e w' => e = .returned (.bool (decide (33 ≤ c) && decide (c ≤ 126))) ∧ w' = w := by
  by_cases h1 : 33 ≤ c
  · go_enter Tryd.func22, Tryd.ntmps22
    go_wp2
    go_ret
    exact ⟨by simp [h1], rfl⟩
  · go_enter Tryd.func22, Tryd.ntmps22
    go_wp2
    go_ret
    exact ⟨by simp; omega, rfl⟩

set_option maxRecDepth 100000 in
set_option maxHeartbeats 1000000 in
theorem edges_any (s : ByteArray) (w : World) (hs : s.size ≤ maxLen) :
    Calls Tryd.prog 17 #[.string s] w fun e w' => Told (Edges s.data.toList) w e w' := by
  have hs : s.size ≤ 9223372036854775807 := hs
  by_cases h0 : 0 < s.size
  case neg =>
    have e0 : s.size = 0 := by omega
    have HE : Hid (Edges s.data.toList) := Or.inl (List.eq_nil_of_length_eq_zero (by rw [← size_list]; exact e0))
    go_enter Tryd.func17, Tryd.ntmps17
    go_wp2
    go_ret
    exact Told.of fun _ => HE.out
  case pos =>
  have e0 : ((s.size : Int) == 0) = false := by rw [beq_eq_false_iff_ne]; omega
  obtain ⟨m, hm, hme⟩ : ∃ m : Nat, m = s.size - 1 ∧ (s.size : Int) - 1 = (m : Int) := ⟨s.size - 1, rfl, by omega⟩
  have hms : m < s.size := by omega
  have HM : Hid (m = s.size - 1) := hm
  clear hm
  obtain ⟨ba, hba⟩ : ∃ b : Bool, (decide ((33 : Int) ≤ (s[0].toNat : Int)) && decide ((s[0].toNat : Int) ≤ 126)) = b := ⟨_, rfl⟩
  obtain ⟨bz, hbz⟩ : ∃ b : Bool, (decide ((33 : Int) ≤ (s[m].toNat : Int)) && decide ((s[m].toNat : Int) ≤ 126)) = b := ⟨_, rfl⟩
  have HBA := (show Hid _ from hba)
  have HBZ := (show Hid _ from hbz)
  clear hba hbz
  have HE : Hid (ba = true → bz = true → Edges s.data.toList) := by
    intro ha hz
    have h1 := HBA.out
    have h2 := HBZ.out
    rw [ha] at h1
    rw [hz] at h2
    simp at h1 h2
    refine Or.inr ⟨⟨_, head_list s h0, by unfold Pr; omega⟩, s[m], ?_, by unfold Pr; omega⟩
    rw [List.getLast?_eq_getElem?, ← size_list, ← HM.out, List.getElem?_eq_getElem (by rw [← size_list]; exact hms)]
    rfl
  cases ba with
  | false =>
    go_enter Tryd.func17, Tryd.ntmps17
    go_wp2_with (go_at_call 22; refine (pr_any _ _).mono ?_; rintro e w' ⟨rfl, rfl⟩; rw [HBA.out])
    go_ret
    exact Told.no
  | true =>
    cases bz with
    | false =>
      go_enter Tryd.func17, Tryd.ntmps17
      go_wp2_with (go_at_call 22; refine (pr_any _ _).mono ?_; rintro e w' ⟨rfl, rfl⟩; first | rw [HBZ.out] | rw [HBA.out])
      go_ret
      exact Told.no
    | true =>
      go_enter Tryd.func17, Tryd.ntmps17
      go_wp2_with (go_at_call 22; refine (pr_any _ _).mono ?_; rintro e w' ⟨rfl, rfl⟩; first | rw [HBZ.out] | rw [HBA.out])
      go_ret
      exact Told.of fun _ => by have := HE.out; simpa using this

/-! ### A slice's bytes -/
/-- From (b, o) on the memory holds the bytes l. -/
def At (w : World) (b o : Nat) (l : List UInt8) : Prop := ∀ i (h : i < l.length), w.cell? ⟨b, o + i, none⟩ = some (.int .u8 (l[i].toNat : Int))
/-- A slice of the bytes l: nil, or somewhere in the memory. -/
def Sl (w : World) (v : Value) (l : List UInt8) : Prop := (v = .slice none 0 0 ∧ l = []) ∨ ∃ b o c, v = .slice (some ⟨b, o, none⟩) l.length c ∧ l.length ≤ c ∧ At w b o l
theorem At.below {w w' : World} {b o : Nat} {l : List UInt8} {B : Nat} (h : At w b o l) (hb : Below B w w') (hB : b < B) : At w' b o l := fun i hi => by
  rw [hb.cell (p := ⟨b, o + i, none⟩) hB]; exact h i hi
theorem At.drewN {w : World} {b o : Nat} {l : List UInt8} (h : At w b o l) (q : Nat) : At (w.drewN q) b o l := fun i hi => by
  have := h i hi
  simpa using this
theorem At.drop {w : World} {b o : Nat} {l : List UInt8} (h : At w b o l) (k : Nat) : At w b (o + k) (l.drop k) := fun i hi => by
  rw [List.length_drop] at hi
  have := h (k + i) (by omega)
  rw [List.getElem_drop, Nat.add_assoc]
  exact this
theorem At.take {w : World} {b o : Nat} {l : List UInt8} (h : At w b o l) (k : Nat) : At w b o (l.take k) := fun i hi => by
  rw [List.length_take] at hi
  rw [List.getElem_take]
  exact h i (by omega)

set_option maxRecDepth 100000 in
set_option maxHeartbeats 1000000 in
theorem equal_yes (v : Value) (s : ByteArray) (w : World) (hs : s.size ≤ 9000000000) (h : Sl w v s.data.toList) :
    Calls Tryd.prog 19 #[v, .string s] w fun e w' => e = .returned (.bool true) ∧ ∃ q, w' = w.drewN q := by
  have hsz := size_list s
  rcases h with ⟨rfl, h0⟩ | ⟨b, o, c, rfl, hc, hA⟩
  · have e0 : s.size = 0 := by rw [hsz, h0]; rfl
    clear hsz h0
    go_enter Tryd.func19, Tryd.ntmps19
    go_wp2
    go_loop [5] (fun i => i = .int .i64 0) (fun _ => 0)
    case atStart => rfl
    case round =>
      obtain rfl := hrel
      go_wp2
      go_ret
      exact ⟨rfl, 0, rfl⟩
  · rw [← hsz] at hc ⊢
    have HA : Hid (∀ i (h : i < s.size), w.cell? ⟨b, o + i, none⟩ = some (.int .u8 (s[i].toNat : Int))) := fun i h => hA i (by rw [← hsz]; exact h)
    clear hA hsz
    go_enter Tryd.func19, Tryd.ntmps19
    go_wp2
    go_loopw [5] (fun i wr => ∃ k q : Nat, k ≤ s.size ∧ i = .int .i64 k ∧ wr = w.drewN q) (fun i _ => s.size - (intOf i).toNat)
    case atStart => exact ⟨0, 0, Nat.zero_le _, rfl, rfl⟩
    case round =>
      obtain ⟨k, q, hk, rfl, rfl⟩ := hrel
      by_cases hlt : k < s.size
      · have h1 := HA.out k hlt
        go_upto_region 6 with fail
        go_region
        go_wp2
        exact ⟨⟨k + 1, q + 1, by omega, by go_num, rfl⟩, by simp [intOf]; omega⟩
      · go_wp2
        go_ret
        exact ⟨rfl, q, rfl⟩
end Go.Proofs.Qxb6602280aDoor
