/- FnDateTime: for every number of days and every number of nanoseconds the law answers true, and what came in reads as it did. No condition. -/
import Derived.Test.YtahcaoenddapoaaDlw
import Derived.Test.YtahcaoenddapoaaPost
namespace Go.Proofs.Ytahcaoenddapoaa
open Go.ChangeShapes Go.WideShapes Go.ChangeAt Go.RowKit
open Go.WideMaps Go.WideElems

theorem Try.own : ownKnob Try.prog.godebug = none := by kernel_rfl

set_option maxRecDepth 100000 in
theorem fnDateTime_lifted (os : Os) (started : os.Started) (H : Type) (enc : TypeId × Value → H) :
    ReturnsInHanded {} Try.checked os 7 .any (Rows.fnDateTimeSpec.pre6 enc Try.prog Try.f7 Rows.fnDateTimeRow.domain false) (Rows.fnDateTimeSpec.post enc Try.prog Try.f7 false true false false) := by
  refine returnsInHanded_of_change (C := Try.checked) Try.own started (by kernel_rfl) Try.func7
    (ChangeSpec.witness6 (enc := enc) (C := Try.checked) false ⟨#[], #[.int .i64 0, .int .i64 0], []⟩ 8 (by kernel_rfl) (by kernel_rfl) (by kernel_rfl) (by kernel_rfl)) ?_
  intro W base args ds gs before hval0 hW hcnd _
  have hval : ∀ (j : Nat) t v, Try.f7.params[j]? = some t → args[j]? = some v → Value.okWide Try.prog W .any base t v := hval0
  have hW' := hW
  obtain ⟨p, q, hA0, hV, rfl, hfz, hnd⟩ := hW
  have hA : DataW.TrodAll enc Try.prog W 0 (fun _ => true) true Try.f7.params.toList args.toList ds p := hA0
  rw [Try.params7] at hA hval
  obtain ⟨v0, v1, d0, d1, p0, p1, rfl, rfl, rfl, t0, t1⟩ := trodAll_two hA
  obtain ⟨rfl, rfl⟩ := trodVars_none hV
  obtain ⟨K, rfl, rfl, rfl, wK⟩ := open_int Try.underlying3 (hval 0 3 v0 rfl rfl) t0
  obtain ⟨Z, rfl, rfl, rfl, wZ⟩ := open_int Try.underlying2 (hval 1 2 v1 rfl rfl) t1
  clear hA0 hval0
  simp only [List.append_nil] at hW'
  refine (lawDateTime_any K Z W).mono fun e W' ⟨he, hF⟩ => ?_
  subst he
  exact ⟨_, rfl, post_of_below (pa := []) (pv := []) hW' (fun _ _ _ => trodAll_mk1 (shut_bool Try.underlying4 _))
    (fun sp _ => trodAll_mk2 (shut_int (enc := enc) (w := W') (base := 0) (spare := sp) (held := true) Try.underlying3 wK) (shut_int (enc := enc) (w := W') (base := 0) (spare := sp) (held := true) Try.underlying2 wZ))
    (fun _ _ => rfl) rfl
    hF.below' (ok_one (by kernel_rfl) rfl (okWide_bool_mk Try.underlying4 _))⟩

theorem fnDateTime_holds : Rows.FnDateTimeSaid :=
  OpenClaim.holds_of_wide 7 Try.f7 rfl rfl rfl rfl rfl rfl rfl ⟨rfl, rfl, rfl, rfl, rfl⟩ rfl rfl rfl rfl rfl (by kernel_rfl) Try.func7 (by kernel_rfl)
    (of_decide_eq_true (by kernel_rfl)) (by unfold Func.isWrapper; first | (rw [if_pos (by decide +kernel)]; kernel_rfl) | (rw [if_neg (by decide +kernel)]; exact ⟨rfl, rfl⟩))
    (fun os started H enc _ => fnDateTime_lifted os started H enc)
end Go.Proofs.Ytahcaoenddapoaa
