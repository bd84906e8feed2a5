/-
  FnCutFieldReadsBackAWrittenField: the row and the tied card, out of the walk.
-/
import Derived.Test.Qxb6602280aDoorLaw
import Derived.Test.Qxb6602280aDoorRowKit
namespace Go.Proofs.Qxb6602280aDoor
open Go.RowKit Go.ChangeShapes Go.WideShapes Go.ChangeAt
open Go.ChangeMaps (open_string shut_string)

namespace P1
def laid : List (String × DataW Unit) := Rows.fnCutFieldReadsBackAWrittenFieldRow.laid
theorem tabs_of {W : World} (hL : laidMet Tryd.prog laid W) (hsh : W.ShapedOpen Tryd.prog) : Tabs W :=
  ⟨⟨first_of hL (.tail _ (.tail _ (.tail _ (.head _)))) (by kernel_rfl), accept_of hL (.head _) (by kernel_rfl)⟩, white_of hL (.tail _ (.head _)), space_of hL (.tail _ (.tail _ (.head _))) (by kernel_rfl), max_of hsh⟩
theorem byte_of {x : Int} (h : 0 ≤ x ∧ x ≤ 255) : ∃ s : UInt8, x = (s.toNat : Int) := by
  refine ⟨UInt8.ofNat x.toNat, ?_⟩
  rw [UInt8.toNat_ofNat']
  omega

set_option maxRecDepth 100000 in
theorem lifted (os : Os) (started : os.Started) (H : Type) (enc : TypeId × Value → H) :
    ReturnsInHanded {} Tryd.checked os 6 .any (fun w args => (Rows.fnCutFieldReadsBackAWrittenFieldSpec.pre enc Tryd.prog Tryd.f6 [] false w args ∧ laidMetH Tryd.prog laid w) ∧ sizedMet enc Tryd.prog Tryd.f6 (OpenSpec.ofChange Rows.fnCutFieldReadsBackAWrittenFieldSpec) false w args)
      (Rows.fnCutFieldReadsBackAWrittenFieldSpec.post enc Tryd.prog Tryd.f6 false true false false) := by
  refine returns_and_shaped (C := Tryd.checked) (X := fun w _ => laidMetH Tryd.prog laid w) (fun _ _ _ hh h => h.of_heap hh) own started (by kernel_rfl) Tryd.func6
    (ChangeSpec.witness_shaped (enc := enc) (C := Tryd.checked) (os := os) (X := fun w _ => laidMetH Tryd.prog laid w) false (World.laidAll Tryd.prog os laid) #[.string ⟨#[]⟩, .string ⟨#[]⟩, .string ⟨#[]⟩, .int .u8 0, .bool false] 8 (World.laidAll_os _ _ _)
      (World.shaped_of_ZipB (by kernel_rfl) (by kernel_rfl)) (by kernel_rfl) (by kernel_rfl) (by kernel_rfl)
      (by rw [MakeChecks.laidMetH_plain _ _ _ (by kernel_rfl)]; exact laidMet_laidAll _ (by kernel_rfl) (by kernel_rfl))) ?_
  intro W base args ds gs before hval0 hW hL hsh
  have hval : ∀ (j : Nat) t v, Tryd.f6.params[j]? = some t → args[j]? = some v → Value.okWide Tryd.prog W .any base t v := hval0
  have hW' := hW
  obtain ⟨p, q, hA0, hV, rfl, _, _⟩ := hW
  have hA : DataW.TrodAll enc Tryd.prog W 0 (fun _ => true) true Tryd.f6.params.toList args.toList ds p := hA0
  rw [Tryd.params6] at hA hval
  obtain ⟨v0, v1, v2, v3, v4, d0, d1, d2, d3, d4, p0, p1, p2, p3, p4, rfl, rfl, rfl, h0, h1, h2, h3, h4⟩ := five hA
  obtain ⟨rfl, rfl⟩ := trodVars_none hV
  obtain ⟨k, rfl, rfl, rfl, hk⟩ := open_string Tryd.underlying9 (hval 0 9 v0 rfl rfl) h0
  obtain ⟨v, rfl, rfl, rfl, hv⟩ := open_string Tryd.underlying9 (hval 1 9 v1 rfl rfl) h1
  obtain ⟨r, rfl, rfl, rfl, hr⟩ := open_string Tryd.underlying9 (hval 2 9 v2 rfl rfl) h2
  obtain ⟨x, rfl, rfl, rfl, wx⟩ := open_int Tryd.underlying5 (hval 3 5 v3 rfl rfl) h3
  obtain ⟨b, rfl, rfl, rfl⟩ := open_bool Tryd.underlying4 (hval 4 4 v4 rfl rfl) h4
  simp only [List.append_nil] at hW'
  have hx : 0 ≤ x ∧ x ≤ 255 := by simpa [Lit.wf, IntKind.min, IntKind.max, IntKind.signed, IntKind.bits] using wx
  rw [MakeChecks.laidMetH_plain _ _ _ (by kernel_rfl)] at hL
  obtain ⟨s, rfl⟩ := byte_of hx
  refine (law k v r s b W hk hv hr (tabs_of hL hsh)).mono fun e W' ⟨he, hb⟩ => ?_
  subst he
  exact ⟨_, rfl, _, _, _, [], [], [], hW', trodAll_mk1 (shut_bool Tryd.underlying4 _), mk_five (shut_string Tryd.underlying9 hk) (shut_string Tryd.underlying9 hv) (shut_string Tryd.underlying9 hr) (shut_int Tryd.underlying5 wx) (shut_bool Tryd.underlying4 _), rfl, hb.frame _, fun h => by cases h⟩

theorem holds : Rows.FnCutFieldReadsBackAWrittenFieldSaid :=
  OpenClaim.holds_of_wide 6 Tryd.f6 rfl rfl rfl rfl rfl rfl rfl ⟨rfl, rfl, rfl, rfl, rfl⟩ rfl rfl rfl rfl rfl (by kernel_rfl) Tryd.func6 (by kernel_rfl)
    (of_decide_eq_true (by kernel_rfl)) (by unfold Func.isWrapper; first | (rw [if_pos (by decide +kernel)]; kernel_rfl) | (rw [if_neg (by decide +kernel)]; exact ⟨rfl, rfl⟩))
    (fun os started H enc _ => lifted os started H enc)

theorem card_holds : Rows.FnCutFieldReadsBackAWrittenFieldCardSaid :=
  Claim7.holds_tied_plain_at .later [] [.data, .listed, .data, .pinned] true (true, "7fe41d7a53baa884b646af3ade860d84a36ed2b9282307a96bd7b568e814cad1") true holds (fun _ h => by cases h) (by kernel_rfl) (fun _ h => by cases h) fnCutFieldReadsBackAWrittenField_row_tie rfl ⟨rfl, rfl⟩ (by kernel_rfl) rfl
    (fun f fn hf hfn => by
      obtain rfl : f = 6 := Option.some.inj ((show Tryd.prog.funcNamed Rows.fnCutFieldReadsBackAWrittenFieldRow.func = some 6 by kernel_rfl).symm.trans hf) |>.symm
      obtain rfl : fn = Tryd.f6 := (Option.some.inj (Tryd.func6.symm.trans hfn)).symm
      exact ⟨by kernel_rfl, fun j t ht => by
        rw [Tryd.params6] at ht
        have hm : t ∈ [9, 9, 9, 5, 4] := by simpa using Array.mem_of_getElem? ht
        have hall : ([9, 9, 9, 5, 4].all fun u => !Tryd.prog.wantsStandIn u) = true := by kernel_rfl
        exact (show Tryd.prog.wantsStandIn t = false by simpa using List.all_eq_true.1 hall t hm)⟩)
    (by kernel_rfl)
end P1
end Go.Proofs.Qxb6602280aDoor
