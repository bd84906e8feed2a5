/-
  FnParseDecimalMatchesScanModel: the walk of the law.
-/
import Derived.Test.Qxb6602256aDoorWalksJ
import Derived.Test.Qxb6602256aDoorWalksM
import Derived.Test.Qxb6602256aDoorWalksR
namespace Go.Proofs.Qxb6602256aDoor
open Go.RowKit

set_option maxHeartbeats 400000 in
theorem bytes16_any (s : ByteArray) (w : World) (hs : s.size ≤ maxLen) :
    Calls Tryd.prog 16 #[.string s] w fun e w' => e = .returned (.bool (decide (s.size ≤ 1048576))) ∧ w' = w := by
  unfold maxLen at hs
  by_cases h : s.size ≤ 1048576
  · go_enter Tryd.func16, Tryd.ntmps16
    go_wp2
    go_ret
    exact ⟨ret_bool (by simp [h]), rfl⟩
  · go_enter Tryd.func16, Tryd.ntmps16
    go_wp2
    go_ret
    exact ⟨ret_bool (by simp; omega), rfl⟩

set_option maxRecDepth 100000 in
set_option maxHeartbeats 1000000 in
theorem law3 (s : ByteArray) (w : World) (hs : s.size ≤ maxLen) (hV : Vars w) :
    Calls Tryd.prog 5 #[.string s] w fun e w' => e = .returned (.bool true) ∧ Below w.heap.size w w' := by
  by_cases hsz : s.size ≤ 1048576
  · have hszd : decide (s.size ≤ 1048576) = true := by simpa using hsz
    cases hval : Pl.validB s.data.toList with
    | false =>
      go_enter Tryd.func5, Tryd.ntmps5
      go_wp2_with (first
        | (go_at_call 16; refine (bytes16_any _ _ hs).mono ?_; rintro e w' ⟨rfl, rfl⟩; rw [hszd])
        | (go_at_call 17; refine (valid_any _ _ hs).mono ?_; rintro e w' ⟨rfl, rfl⟩; rw [hval]))
      go_ret
      exact ⟨rfl, Below.refl _ _⟩
    | true =>
      obtain ⟨n, hn, hl⟩ := Pl.valid_parts hval
      have HVAL : Hid (Pl.validB s.data.toList = true) := hval
      have HL : Hid (s.data.toList = n.text) := hl
      clear hval hl
      obtain ⟨a, ha⟩ : ∃ a, n.dec.neg = a := ⟨_, rfl⟩
      obtain ⟨b, hb⟩ : ∃ b, n.dec.digits = b := ⟨_, rfl⟩
      obtain ⟨c, hc⟩ : ∃ c, n.dec.exp = c := ⟨_, rfl⟩
      obtain ⟨d, hd⟩ : ∃ d, n.dec.far = d := ⟨_, rfl⟩
      have HT : Hid (tup n.dec = .tuple #[.bool a, .string ⟨b.toArray⟩, .int .i64 c, .string ⟨d.toArray⟩]) := by
        show tup n.dec = _
        unfold tup
        rw [ha, hb, hc, hd]
      clear ha hb hc hd
      go_enter Tryd.func5, Tryd.ntmps5
      go_wp2_with (first
        | (go_at_call 16; refine (bytes16_any _ _ hs).mono ?_; rintro e w' ⟨rfl, rfl⟩; rw [hszd])
        | (go_at_call 17; refine (valid_any _ _ hs).mono ?_; rintro e w' ⟨rfl, rfl⟩; rw [HVAL.out])
        | (go_at_call 18; refine (parseZ_any _ n hn HL.out _ (by omega) hV).mono ?_; rintro e w1 ⟨rfl, hb1⟩; rw [HT.out])
        | (go_at_call 19; refine (mparse_any _ n hn HL.out _ hsz).mono ?_; rintro e w2 ⟨rfl, hb2⟩; rw [show (Value.tuple #[.bool n.dec.neg, .string ⟨n.dec.digits.toArray⟩, .int .i64 n.dec.exp, .string ⟨n.dec.far.toArray⟩]) = _ from HT.out]))
      go_ret
      exact ⟨ret_bool (by simp), below_then hb1 hb2⟩
  · have hszd : decide (s.size ≤ 1048576) = false := by simp; omega
    go_enter Tryd.func5, Tryd.ntmps5
    go_wp2_with (go_at_call 16; refine (bytes16_any _ _ hs).mono ?_; rintro e w' ⟨rfl, rfl⟩; rw [hszd])
    go_ret
    exact ⟨rfl, Below.refl _ _⟩
end Go.Proofs.Qxb6602256aDoor
