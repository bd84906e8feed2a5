/-
  ZZcutField; zzBytes; appendPad.
-/
import Derived.Test.Qxb6602280aDoorWalksH
namespace Go.Proofs.Qxb6602280aDoor
open Go.RowKit

/-- The three slices that cutField hands back. -/
def Three (w : World) (K V R : List UInt8) (e : Ending) (w' : World) : Prop := ∃ kv vv rv, e = .returned (.tuple #[kv, vv, rv]) ∧ Sl w' kv K ∧ Sl w' vv V ∧ Sl w' rv R ∧ rv ≠ .slice none 0 0 ∧ Below w.heap.size w w'
set_option maxRecDepth 100000 in
theorem cutZ_any (dv : Value) (s : UInt8) (K V R : List UInt8) (w : World) (h : Calls Tryd.prog 21 #[dv, .int .u8 (s.toNat : Int)] w fun e w' => Three w K V R e w') :
    Calls Tryd.prog 12 #[dv, .int .u8 (s.toNat : Int)] w fun e w' => Three w K V R e w' := by
  go_enter Tryd.func12, Tryd.ntmps12
  go_wp2_with (go_at_call 21; refine h.mono ?_; rintro e w1 ⟨kv, vv, rv, rfl, h1, h2, h3, h4, h5⟩)
  exact bodyPost_ret (v := .tuple #[kv, vv, rv]) (by simp [results, Tryd.results12, go_sem]) rfl ⟨kv, vv, rv, rfl, h1, h2, h3, h4, h5⟩

set_option maxHeartbeats 1000000 in
theorem bytes15_any (k v r : ByteArray) (s : Int) (p : Bool) (w : World) (hk : k.size ≤ maxLen) (hv : v.size ≤ maxLen) (hr : r.size ≤ maxLen) :
    Calls Tryd.prog 15 #[.string k, .string v, .string r, .int .u8 s, .bool p] w fun e w' => Told (k.size + v.size + r.size ≤ 1048576) w e w' := by
  unfold maxLen at hk hv hr
  by_cases h1 : k.size ≤ 1048576
  · by_cases h2 : k.size + v.size ≤ 1048576
    · by_cases h3 : k.size + v.size + r.size ≤ 1048576
      · have e2 : v.size ≤ 1048576 := by omega
        have e3 : r.size ≤ 1048576 := by omega
        have HQ : Hid (k.size + v.size + r.size ≤ 1048576) := h3
        go_enter Tryd.func15, Tryd.ntmps15
        go_wp2
        go_ret
        exact Told.of fun _ => HQ.out
      · by_cases h4 : r.size ≤ 1048576
        · have e2 : v.size ≤ 1048576 := by omega
          go_enter Tryd.func15, Tryd.ntmps15
          go_wp2
          go_ret
          exact Told.no
        · have e2 : v.size ≤ 1048576 := by omega
          go_enter Tryd.func15, Tryd.ntmps15
          go_wp2
          go_ret
          exact Told.no
    · by_cases h4 : v.size ≤ 1048576
      · go_enter Tryd.func15, Tryd.ntmps15
        go_wp2
        go_ret
        exact Told.no
      · go_enter Tryd.func15, Tryd.ntmps15
        go_wp2
        go_ret
        exact Told.no
  · go_enter Tryd.func15, Tryd.ntmps15
    go_wp2
    go_ret
    exact Told.no
end Go.Proofs.Qxb6602280aDoor
