/- laws.FnDateTime: whatever the days and the nanoseconds: true. (Printed by genlaw4.py.) -/
import Derived.Test.YtahcaoenddapoaaDl0
namespace Go.Proofs.Ytahcaoenddapoaa
open Go.RowKit

set_option maxRecDepth 100000 in
set_option maxHeartbeats 0 in
theorem lawDateTime_any (d N : Int) (w : World) : Calls Try.prog 7 #[.int .i64 d, .int .i64 N] w fun e w' => e = .returned (.bool true) ∧ Fresh w w' := by
  have hund : undef = Value.tuple #[] := rfl
  have hfl : ∀ (a : Addr) (b : Nat) (m : Mode) (W : World), (store a (.float .f64 b) m).run Try.prog W = stored Try.prog W a (.float .f64 b) m := fun a b m W => run_store Try.prog W a _ m rfl
  obtain ⟨W, hWe, hSS⟩ := dcols_new w d N
  have HSS := Go.Lib.hid hSS
  have HWE := Go.Lib.hid hWe
  clear hSS hWe
  go_enter Try.func7, Try.ntmps7
  go_upto_region 3 with (fail)
  have hWe := HWE.out
  rw [← hWe]
  clear hWe HWE hfl
  generalize hb : w.heap.size = b at *
  have hd3 := HSS.out.fresh (Kept.refl _ _).drew
  clear HSS
  refine reg_open (S := SS w b d N) 14 #[false, false, false, false, false, false, false, false, false, false, false, false, false, false] (by kernel_rfl) (by kernel_rfl) (by kernel_rfl) (by intro c a d v w h; cases d <;> exact h) (by kernel_rfl) (fun OPS QQ HO HQ hQP hSel => ?_)
  generalize W.drew = v0l at *
  refine reg_take (i := 0) (oi := ?o_1) (v := ?v_1) (listed' := #[true, false, false, false, false, false, false, false, false, false, false, false, false, false]) HO ?hi_1 hSel ?hf_1 ?hr_1 hQP (by kernel_rfl) ?hw_1 ?h_1 hd3 ?_
  case hi_1 => (simp only [List.getElem?_toArray, List.getElem?_cons_zero]; rfl)
  case hf_1 => kernel_rfl
  case hr_1 => kernel_rfl
  case hw_1 => rfl
  case h_1 => (intro W hSw; obtain ⟨c0, c1, c2, c3, c4, c5⟩ := hSw.k0; go_simp; first | done | with_reducible rfl)
  (try simp only [Act.put]); (try simp only [List.setIfInBounds_toArray]); (try simp only [List.set_cons_zero]); (try simp only [List.set_cons_succ])
  refine reg_take (i := 1) (oi := ?o_2) (v := ?v_2) (listed' := #[true, true, false, false, false, false, false, false, false, false, false, false, false, false]) HO ?hi_2 hSel ?hf_2 ?hr_2 hQP (by kernel_rfl) ?hw_2 ?h_2 hd3 ?_
  case hi_2 => (simp only [List.getElem?_toArray, List.getElem?_cons_succ, List.getElem?_cons_zero]; rfl)
  case hf_2 => kernel_rfl
  case hr_2 => kernel_rfl
  case hw_2 => rfl
  case h_2 => (intro W hSw; obtain ⟨c0, c1, c2, c3, c4, c5, c6, c7, c8⟩ := hSw.v; go_simp; first | done | with_reducible rfl)
  (try simp only [Act.put]); (try simp only [List.setIfInBounds_toArray]); (try simp only [List.set_cons_zero]); (try simp only [List.set_cons_succ])
  refine reg_one (i := 2) (o := ?o_3) (listed' := #[true, true, true, false, false, false, false, false, false, false, false, false, false, false]) HO ?hi_3 ?hr_3 (by kernel_rfl) ?hw_3 (fun K hK => ?_)
  case hi_3 => (simp only [List.getElem?_toArray, List.getElem?_cons_succ, List.getElem?_cons_zero]; rfl)
  case hr_3 => kernel_rfl
  case hw_3 => rfl
  go_simp
  go_at_call 23
  refine (proper8_any d N _).mono ?_
  rintro e xl0 ⟨⟨bl, rfl, hBl⟩, hFl0⟩
  refine hK.out _ _ (SS.fresh hd3 hFl0) (fun hXl0 => ?_)
  clear hK K hFl0 hd3
  cases bl with
  | false =>
    clear hBl
    refine reg_take (i := 3) (oi := ?o_4) (v := ?v_4) (listed' := #[true, true, true, true, false, false, false, false, false, false, false, false, false, false]) HO ?hi_4 hSel ?hf_4 ?hr_4 hQP (by kernel_rfl) ?hw_4 ?h_4 hXl0 ?_
    case hi_4 => (simp only [List.getElem?_toArray, List.getElem?_cons_succ, List.getElem?_cons_zero]; rfl)
    case hf_4 => kernel_rfl
    case hr_4 => kernel_rfl
    case hw_4 => rfl
    case h_4 => (intro W hSw; go_simp; first | done | with_reducible rfl)
    (try simp only [Act.put]); (try simp only [List.setIfInBounds_toArray]); (try simp only [List.set_cons_zero]); (try simp only [List.set_cons_succ])
    refine reg_skip (i := 4) (oi := ?o_5) (listed' := #[true, true, true, true, true, false, false, false, false, false, false, false, false, false]) HO ?hi_5 hSel ?hf_5 ?hr_5 hQP (by kernel_rfl) ?hw_5 hXl0 ?_
    case hi_5 => (simp only [List.getElem?_toArray, List.getElem?_cons_succ, List.getElem?_cons_zero]; rfl)
    case hf_5 => kernel_rfl
    case hr_5 => kernel_rfl
    case hw_5 => rfl
    (try simp only [Act.put]); (try simp only [List.setIfInBounds_toArray]); (try simp only [List.set_cons_zero]); (try simp only [List.set_cons_succ])
    refine reg_skip (i := 5) (oi := ?o_6) (listed' := #[true, true, true, true, true, true, false, false, false, false, false, false, false, false]) HO ?hi_6 hSel ?hf_6 ?hr_6 hQP (by kernel_rfl) ?hw_6 hXl0 ?_
    case hi_6 => (simp only [List.getElem?_toArray, List.getElem?_cons_succ, List.getElem?_cons_zero]; rfl)
    case hf_6 => kernel_rfl
    case hr_6 => kernel_rfl
    case hw_6 => rfl
    (try simp only [Act.put]); (try simp only [List.setIfInBounds_toArray]); (try simp only [List.set_cons_zero]); (try simp only [List.set_cons_succ])
    refine reg_skip (i := 6) (oi := ?o_7) (listed' := #[true, true, true, true, true, true, true, false, false, false, false, false, false, false]) HO ?hi_7 hSel ?hf_7 ?hr_7 hQP (by kernel_rfl) ?hw_7 hXl0 ?_
    case hi_7 => (simp only [List.getElem?_toArray, List.getElem?_cons_succ, List.getElem?_cons_zero]; rfl)
    case hf_7 => kernel_rfl
    case hr_7 => kernel_rfl
    case hw_7 => rfl
    (try simp only [Act.put]); (try simp only [List.setIfInBounds_toArray]); (try simp only [List.set_cons_zero]); (try simp only [List.set_cons_succ])
    refine reg_skip (i := 7) (oi := ?o_8) (listed' := #[true, true, true, true, true, true, true, true, false, false, false, false, false, false]) HO ?hi_8 hSel ?hf_8 ?hr_8 hQP (by kernel_rfl) ?hw_8 hXl0 ?_
    case hi_8 => (simp only [List.getElem?_toArray, List.getElem?_cons_succ, List.getElem?_cons_zero]; rfl)
    case hf_8 => kernel_rfl
    case hr_8 => kernel_rfl
    case hw_8 => rfl
    (try simp only [Act.put]); (try simp only [List.setIfInBounds_toArray]); (try simp only [List.set_cons_zero]); (try simp only [List.set_cons_succ])
    refine reg_skip (i := 8) (oi := ?o_9) (listed' := #[true, true, true, true, true, true, true, true, true, false, false, false, false, false]) HO ?hi_9 hSel ?hf_9 ?hr_9 hQP (by kernel_rfl) ?hw_9 hXl0 ?_
    case hi_9 => (simp only [List.getElem?_toArray, List.getElem?_cons_succ, List.getElem?_cons_zero]; rfl)
    case hf_9 => kernel_rfl
    case hr_9 => kernel_rfl
    case hw_9 => rfl
    (try simp only [Act.put]); (try simp only [List.setIfInBounds_toArray]); (try simp only [List.set_cons_zero]); (try simp only [List.set_cons_succ])
    refine reg_skip (i := 9) (oi := ?o_10) (listed' := #[true, true, true, true, true, true, true, true, true, true, false, false, false, false]) HO ?hi_10 hSel ?hf_10 ?hr_10 hQP (by kernel_rfl) ?hw_10 hXl0 ?_
    case hi_10 => (simp only [List.getElem?_toArray, List.getElem?_cons_succ, List.getElem?_cons_zero]; rfl)
    case hf_10 => kernel_rfl
    case hr_10 => kernel_rfl
    case hw_10 => rfl
    (try simp only [Act.put]); (try simp only [List.setIfInBounds_toArray]); (try simp only [List.set_cons_zero]); (try simp only [List.set_cons_succ])
    refine reg_skip (i := 10) (oi := ?o_11) (listed' := #[true, true, true, true, true, true, true, true, true, true, true, false, false, false]) HO ?hi_11 hSel ?hf_11 ?hr_11 hQP (by kernel_rfl) ?hw_11 hXl0 ?_
    case hi_11 => (simp only [List.getElem?_toArray, List.getElem?_cons_succ, List.getElem?_cons_zero]; rfl)
    case hf_11 => kernel_rfl
    case hr_11 => kernel_rfl
    case hw_11 => rfl
    (try simp only [Act.put]); (try simp only [List.setIfInBounds_toArray]); (try simp only [List.set_cons_zero]); (try simp only [List.set_cons_succ])
    refine reg_skip (i := 11) (oi := ?o_12) (listed' := #[true, true, true, true, true, true, true, true, true, true, true, true, false, false]) HO ?hi_12 hSel ?hf_12 ?hr_12 hQP (by kernel_rfl) ?hw_12 hXl0 ?_
    case hi_12 => (simp only [List.getElem?_toArray, List.getElem?_cons_succ, List.getElem?_cons_zero]; rfl)
    case hf_12 => kernel_rfl
    case hr_12 => kernel_rfl
    case hw_12 => rfl
    (try simp only [Act.put]); (try simp only [List.setIfInBounds_toArray]); (try simp only [List.set_cons_zero]); (try simp only [List.set_cons_succ])
    refine reg_skip (i := 12) (oi := ?o_13) (listed' := #[true, true, true, true, true, true, true, true, true, true, true, true, true, false]) HO ?hi_13 hSel ?hf_13 ?hr_13 hQP (by kernel_rfl) ?hw_13 hXl0 ?_
    case hi_13 => (simp only [List.getElem?_toArray, List.getElem?_cons_succ, List.getElem?_cons_zero]; rfl)
    case hf_13 => kernel_rfl
    case hr_13 => kernel_rfl
    case hw_13 => rfl
    (try simp only [Act.put]); (try simp only [List.setIfInBounds_toArray]); (try simp only [List.set_cons_zero]); (try simp only [List.set_cons_succ])
    refine reg_take (i := 13) (oi := ?o_14) (v := ?v_14) (listed' := #[true, true, true, true, true, true, true, true, true, true, true, true, true, true]) HO ?hi_14 hSel ?hf_14 ?hr_14 hQP (by kernel_rfl) ?hw_14 ?h_14 hXl0 ?_
    case hi_14 => (simp only [List.getElem?_toArray, List.getElem?_cons_succ, List.getElem?_cons_zero]; rfl)
    case hf_14 => kernel_rfl
    case hr_14 => kernel_rfl
    case hw_14 => rfl
    case h_14 => (intro W hSw; go_simp; first | done | with_reducible rfl)
    (try simp only [Act.put]); (try simp only [List.setIfInBounds_toArray]); (try simp only [List.set_cons_zero]); (try simp only [List.set_cons_succ])
    refine reg_done HO HQ (by kernel_rfl) ?_
    have HSl := Go.Lib.hid hXl0
    clear hXl0 HO HQ hQP hSel
    go_upto_region 5 with (fail)
    have hd5 := HSl.out.fresh (Kept.refl _ _).drew
    clear HSl
    refine reg_open (S := SS w b d N) 14 #[false, false, false, false, false, false, false, false, false, false, false, false, false, false] (by kernel_rfl) (by kernel_rfl) (by kernel_rfl) (by intro c a d v w h; cases d <;> exact h) (by kernel_rfl) (fun OPS QQ HO HQ hQP hSel => ?_)
    generalize xl0.drew = v0s at *
    refine reg_take (i := 0) (oi := ?o_15) (v := ?v_15) (listed' := #[true, false, false, false, false, false, false, false, false, false, false, false, false, false]) HO ?hi_15 hSel ?hf_15 ?hr_15 hQP (by kernel_rfl) ?hw_15 ?h_15 hd5 ?_
    case hi_15 => (simp only [List.getElem?_toArray, List.getElem?_cons_zero]; rfl)
    case hf_15 => kernel_rfl
    case hr_15 => kernel_rfl
    case hw_15 => rfl
    case h_15 => (intro W hSw; obtain ⟨c0, c1, c2, c3, c4, c5⟩ := hSw.k1; go_simp; first | done | with_reducible rfl)
    (try simp only [Act.put]); (try simp only [List.setIfInBounds_toArray]); (try simp only [List.set_cons_zero]); (try simp only [List.set_cons_succ])
    refine reg_take (i := 1) (oi := ?o_16) (v := ?v_16) (listed' := #[true, true, false, false, false, false, false, false, false, false, false, false, false, false]) HO ?hi_16 hSel ?hf_16 ?hr_16 hQP (by kernel_rfl) ?hw_16 ?h_16 hd5 ?_
    case hi_16 => (simp only [List.getElem?_toArray, List.getElem?_cons_succ, List.getElem?_cons_zero]; rfl)
    case hf_16 => kernel_rfl
    case hr_16 => kernel_rfl
    case hw_16 => rfl
    case h_16 => (intro W hSw; obtain ⟨c0, c1, c2, c3, c4, c5, c6, c7, c8⟩ := hSw.v; go_simp; first | done | with_reducible rfl)
    (try simp only [Act.put]); (try simp only [List.setIfInBounds_toArray]); (try simp only [List.set_cons_zero]); (try simp only [List.set_cons_succ])
    refine reg_one (i := 2) (o := ?o_17) (listed' := #[true, true, true, false, false, false, false, false, false, false, false, false, false, false]) HO ?hi_17 ?hr_17 (by kernel_rfl) ?hw_17 (fun K hK => ?_)
    case hi_17 => (simp only [List.getElem?_toArray, List.getElem?_cons_succ, List.getElem?_cons_zero]; rfl)
    case hr_17 => kernel_rfl
    case hw_17 => rfl
    go_simp
    go_at_call 23
    refine (proper4_any d N _).mono ?_
    rintro e xs0 ⟨⟨bs, rfl, hBs⟩, hFs0⟩
    refine hK.out _ _ (SS.fresh hd5 hFs0) (fun hXs0 => ?_)
    clear hK K hFs0 hd5
    cases bs with
    | false =>
      clear hBs
      refine reg_take (i := 3) (oi := ?o_18) (v := ?v_18) (listed' := #[true, true, true, true, false, false, false, false, false, false, false, false, false, false]) HO ?hi_18 hSel ?hf_18 ?hr_18 hQP (by kernel_rfl) ?hw_18 ?h_18 hXs0 ?_
      case hi_18 => (simp only [List.getElem?_toArray, List.getElem?_cons_succ, List.getElem?_cons_zero]; rfl)
      case hf_18 => kernel_rfl
      case hr_18 => kernel_rfl
      case hw_18 => rfl
      case h_18 => (intro W hSw; go_simp; first | done | with_reducible rfl)
      (try simp only [Act.put]); (try simp only [List.setIfInBounds_toArray]); (try simp only [List.set_cons_zero]); (try simp only [List.set_cons_succ])
      refine reg_skip (i := 4) (oi := ?o_19) (listed' := #[true, true, true, true, true, false, false, false, false, false, false, false, false, false]) HO ?hi_19 hSel ?hf_19 ?hr_19 hQP (by kernel_rfl) ?hw_19 hXs0 ?_
      case hi_19 => (simp only [List.getElem?_toArray, List.getElem?_cons_succ, List.getElem?_cons_zero]; rfl)
      case hf_19 => kernel_rfl
      case hr_19 => kernel_rfl
      case hw_19 => rfl
      (try simp only [Act.put]); (try simp only [List.setIfInBounds_toArray]); (try simp only [List.set_cons_zero]); (try simp only [List.set_cons_succ])
      refine reg_skip (i := 5) (oi := ?o_20) (listed' := #[true, true, true, true, true, true, false, false, false, false, false, false, false, false]) HO ?hi_20 hSel ?hf_20 ?hr_20 hQP (by kernel_rfl) ?hw_20 hXs0 ?_
      case hi_20 => (simp only [List.getElem?_toArray, List.getElem?_cons_succ, List.getElem?_cons_zero]; rfl)
      case hf_20 => kernel_rfl
      case hr_20 => kernel_rfl
      case hw_20 => rfl
      (try simp only [Act.put]); (try simp only [List.setIfInBounds_toArray]); (try simp only [List.set_cons_zero]); (try simp only [List.set_cons_succ])
      refine reg_skip (i := 6) (oi := ?o_21) (listed' := #[true, true, true, true, true, true, true, false, false, false, false, false, false, false]) HO ?hi_21 hSel ?hf_21 ?hr_21 hQP (by kernel_rfl) ?hw_21 hXs0 ?_
      case hi_21 => (simp only [List.getElem?_toArray, List.getElem?_cons_succ, List.getElem?_cons_zero]; rfl)
      case hf_21 => kernel_rfl
      case hr_21 => kernel_rfl
      case hw_21 => rfl
      (try simp only [Act.put]); (try simp only [List.setIfInBounds_toArray]); (try simp only [List.set_cons_zero]); (try simp only [List.set_cons_succ])
      refine reg_skip (i := 7) (oi := ?o_22) (listed' := #[true, true, true, true, true, true, true, true, false, false, false, false, false, false]) HO ?hi_22 hSel ?hf_22 ?hr_22 hQP (by kernel_rfl) ?hw_22 hXs0 ?_
      case hi_22 => (simp only [List.getElem?_toArray, List.getElem?_cons_succ, List.getElem?_cons_zero]; rfl)
      case hf_22 => kernel_rfl
      case hr_22 => kernel_rfl
      case hw_22 => rfl
      (try simp only [Act.put]); (try simp only [List.setIfInBounds_toArray]); (try simp only [List.set_cons_zero]); (try simp only [List.set_cons_succ])
      refine reg_skip (i := 8) (oi := ?o_23) (listed' := #[true, true, true, true, true, true, true, true, true, false, false, false, false, false]) HO ?hi_23 hSel ?hf_23 ?hr_23 hQP (by kernel_rfl) ?hw_23 hXs0 ?_
      case hi_23 => (simp only [List.getElem?_toArray, List.getElem?_cons_succ, List.getElem?_cons_zero]; rfl)
      case hf_23 => kernel_rfl
      case hr_23 => kernel_rfl
      case hw_23 => rfl
      (try simp only [Act.put]); (try simp only [List.setIfInBounds_toArray]); (try simp only [List.set_cons_zero]); (try simp only [List.set_cons_succ])
      refine reg_skip (i := 9) (oi := ?o_24) (listed' := #[true, true, true, true, true, true, true, true, true, true, false, false, false, false]) HO ?hi_24 hSel ?hf_24 ?hr_24 hQP (by kernel_rfl) ?hw_24 hXs0 ?_
      case hi_24 => (simp only [List.getElem?_toArray, List.getElem?_cons_succ, List.getElem?_cons_zero]; rfl)
      case hf_24 => kernel_rfl
      case hr_24 => kernel_rfl
      case hw_24 => rfl
      (try simp only [Act.put]); (try simp only [List.setIfInBounds_toArray]); (try simp only [List.set_cons_zero]); (try simp only [List.set_cons_succ])
      refine reg_skip (i := 10) (oi := ?o_25) (listed' := #[true, true, true, true, true, true, true, true, true, true, true, false, false, false]) HO ?hi_25 hSel ?hf_25 ?hr_25 hQP (by kernel_rfl) ?hw_25 hXs0 ?_
      case hi_25 => (simp only [List.getElem?_toArray, List.getElem?_cons_succ, List.getElem?_cons_zero]; rfl)
      case hf_25 => kernel_rfl
      case hr_25 => kernel_rfl
      case hw_25 => rfl
      (try simp only [Act.put]); (try simp only [List.setIfInBounds_toArray]); (try simp only [List.set_cons_zero]); (try simp only [List.set_cons_succ])
      refine reg_skip (i := 11) (oi := ?o_26) (listed' := #[true, true, true, true, true, true, true, true, true, true, true, true, false, false]) HO ?hi_26 hSel ?hf_26 ?hr_26 hQP (by kernel_rfl) ?hw_26 hXs0 ?_
      case hi_26 => (simp only [List.getElem?_toArray, List.getElem?_cons_succ, List.getElem?_cons_zero]; rfl)
      case hf_26 => kernel_rfl
      case hr_26 => kernel_rfl
      case hw_26 => rfl
      (try simp only [Act.put]); (try simp only [List.setIfInBounds_toArray]); (try simp only [List.set_cons_zero]); (try simp only [List.set_cons_succ])
      refine reg_skip (i := 12) (oi := ?o_27) (listed' := #[true, true, true, true, true, true, true, true, true, true, true, true, true, false]) HO ?hi_27 hSel ?hf_27 ?hr_27 hQP (by kernel_rfl) ?hw_27 hXs0 ?_
      case hi_27 => (simp only [List.getElem?_toArray, List.getElem?_cons_succ, List.getElem?_cons_zero]; rfl)
      case hf_27 => kernel_rfl
      case hr_27 => kernel_rfl
      case hw_27 => rfl
      (try simp only [Act.put]); (try simp only [List.setIfInBounds_toArray]); (try simp only [List.set_cons_zero]); (try simp only [List.set_cons_succ])
      refine reg_take (i := 13) (oi := ?o_28) (v := ?v_28) (listed' := #[true, true, true, true, true, true, true, true, true, true, true, true, true, true]) HO ?hi_28 hSel ?hf_28 ?hr_28 hQP (by kernel_rfl) ?hw_28 ?h_28 hXs0 ?_
      case hi_28 => (simp only [List.getElem?_toArray, List.getElem?_cons_succ, List.getElem?_cons_zero]; rfl)
      case hf_28 => kernel_rfl
      case hr_28 => kernel_rfl
      case hw_28 => rfl
      case h_28 => (intro W hSw; go_simp; first | done | with_reducible rfl)
      (try simp only [Act.put]); (try simp only [List.setIfInBounds_toArray]); (try simp only [List.set_cons_zero]); (try simp only [List.set_cons_succ])
      refine reg_done HO HQ (by kernel_rfl) ?_
      have HSs := Go.Lib.hid hXs0
      clear hXs0 HO HQ hQP hSel
      go_wp2_with (fail)
      refine (works_any _).mono ?_
      rintro e w9 ⟨rfl, hF9⟩
      have HFR := Go.Lib.hid (HSs.out.fr.fresh hF9)
      clear HSs hF9
      go_wp2
      go_ret
      exact ⟨rfl, HFR.out⟩
    | true =>
      obtain ⟨qs0, qs1, qs2⟩ := hBs rfl
      obtain ⟨ls, hls, hAs, hRs⟩ := dt4_same d N qs0 qs1 qs2
      have HLs := Go.Lib.hid hls
      have HAs := Go.Lib.hid hAs
      have HRs := Go.Lib.hid hRs
      clear hBs hls hAs hRs qs0 qs1 qs2
      refine reg_take (i := 3) (oi := ?o_29) (v := ?v_29) (listed' := #[true, true, true, true, false, false, false, false, false, false, false, false, false, false]) HO ?hi_29 hSel ?hf_29 ?hr_29 hQP (by kernel_rfl) ?hw_29 ?h_29 hXs0 ?_
      case hi_29 => (simp only [List.getElem?_toArray, List.getElem?_cons_succ, List.getElem?_cons_zero]; rfl)
      case hf_29 => kernel_rfl
      case hr_29 => kernel_rfl
      case hw_29 => rfl
      case h_29 => (intro W hSw; go_simp; first | done | with_reducible rfl)
      (try simp only [Act.put]); (try simp only [List.setIfInBounds_toArray]); (try simp only [List.set_cons_zero]); (try simp only [List.set_cons_succ])
      refine reg_take (i := 4) (oi := ?o_30) (v := ?v_30) (listed' := #[true, true, true, true, true, false, false, false, false, false, false, false, false, false]) HO ?hi_30 hSel ?hf_30 ?hr_30 hQP (by kernel_rfl) ?hw_30 ?h_30 hXs0 ?_
      case hi_30 => (simp only [List.getElem?_toArray, List.getElem?_cons_succ, List.getElem?_cons_zero]; rfl)
      case hf_30 => kernel_rfl
      case hr_30 => kernel_rfl
      case hw_30 => rfl
      case h_30 => (intro W hSw; go_simp; first | done | with_reducible rfl)
      (try simp only [Act.put]); (try simp only [List.setIfInBounds_toArray]); (try simp only [List.set_cons_zero]); (try simp only [List.set_cons_succ])
      refine reg_take (i := 5) (oi := ?o_31) (v := ?v_31) (listed' := #[true, true, true, true, true, true, false, false, false, false, false, false, false, false]) HO ?hi_31 hSel ?hf_31 ?hr_31 hQP (by kernel_rfl) ?hw_31 ?h_31 hXs0 ?_
      case hi_31 => (simp only [List.getElem?_toArray, List.getElem?_cons_succ, List.getElem?_cons_zero]; rfl)
      case hf_31 => kernel_rfl
      case hr_31 => kernel_rfl
      case hw_31 => rfl
      case h_31 => (intro W hSw; go_simp; first | done | with_reducible rfl)
      (try simp only [Act.put]); (try simp only [List.setIfInBounds_toArray]); (try simp only [List.set_cons_zero]); (try simp only [List.set_cons_succ])
      refine reg_take (i := 8) (oi := ?o_32) (v := ?v_32) (listed' := #[true, true, true, true, true, true, false, false, true, false, false, false, false, false]) HO ?hi_32 hSel ?hf_32 ?hr_32 hQP (by kernel_rfl) ?hw_32 ?h_32 hXs0 ?_
      case hi_32 => (simp only [List.getElem?_toArray, List.getElem?_cons_succ, List.getElem?_cons_zero]; rfl)
      case hf_32 => kernel_rfl
      case hr_32 => kernel_rfl
      case hw_32 => rfl
      case h_32 => (intro W hSw; obtain ⟨c0, c1, c2, c3, c4, c5⟩ := hSw.k1; go_simp; first | done | with_reducible rfl)
      (try simp only [Act.put]); (try simp only [List.setIfInBounds_toArray]); (try simp only [List.set_cons_zero]); (try simp only [List.set_cons_succ])
      refine reg_take (i := 9) (oi := ?o_33) (v := ?v_33) (listed' := #[true, true, true, true, true, true, false, false, true, true, false, false, false, false]) HO ?hi_33 hSel ?hf_33 ?hr_33 hQP (by kernel_rfl) ?hw_33 ?h_33 hXs0 ?_
      case hi_33 => (simp only [List.getElem?_toArray, List.getElem?_cons_succ, List.getElem?_cons_zero]; rfl)
      case hf_33 => kernel_rfl
      case hr_33 => kernel_rfl
      case hw_33 => rfl
      case h_33 => (intro W hSw; obtain ⟨c0, c1, c2, c3, c4, c5, c6, c7, c8⟩ := hSw.v; go_simp; first | done | with_reducible rfl)
      (try simp only [Act.put]); (try simp only [List.setIfInBounds_toArray]); (try simp only [List.set_cons_zero]); (try simp only [List.set_cons_succ])
      refine reg_one (i := 6) (o := ?o_34) (listed' := #[true, true, true, true, true, true, true, false, true, true, false, false, false, false]) HO ?hi_34 ?hr_34 (by kernel_rfl) ?hw_34 (fun K hK => ?_)
      case hi_34 => (simp only [List.getElem?_toArray, List.getElem?_cons_succ, List.getElem?_cons_zero]; rfl)
      case hr_34 => kernel_rfl
      case hw_34 => rfl
      go_simp
      go_at_call 26
      refine (HAs.out _).mono ?_
      rintro e xs1 ⟨ys1, rfl, hbs1, hFs1⟩
      refine hK.out _ _ (SS.fresh hXs0 hFs1) (fun hH => ?_)
      clear hK K
      refine reg_strong (S' := And2 (SS w b d N) ys1 ls) (fun _ h => h.s) _ _ _ _ ?_
      have hXs1 : And2 (SS w b d N) ys1 ls xs1 := ⟨hH, hbs1⟩
      clear hH hbs1 hFs1 hXs0
      refine reg_take (i := 7) (oi := ?o_35) (v := ?v_35) (listed' := #[true, true, true, true, true, true, true, true, true, true, false, false, false, false]) HO ?hi_35 hSel ?hf_35 ?hr_35 hQP (by kernel_rfl) ?hw_35 ?h_35 hXs1 ?_
      case hi_35 => (simp only [List.getElem?_toArray, List.getElem?_cons_succ, List.getElem?_cons_zero]; rfl)
      case hf_35 => kernel_rfl
      case hr_35 => kernel_rfl
      case hw_35 => rfl
      case h_35 => (intro W hSw; have q := strings_same hSw.b HLs.out; go_simp; first | done | with_reducible rfl)
      (try simp only [Act.put]); (try simp only [List.setIfInBounds_toArray]); (try simp only [List.set_cons_zero]); (try simp only [List.set_cons_succ])
      refine reg_one (i := 10) (o := ?o_36) (listed' := #[true, true, true, true, true, true, true, true, true, true, true, false, false, false]) HO ?hi_36 ?hr_36 (by kernel_rfl) ?hw_36 (fun K hK => ?_)
      case hi_36 => (simp only [List.getElem?_toArray, List.getElem?_cons_succ, List.getElem?_cons_zero]; rfl)
      case hr_36 => kernel_rfl
      case hw_36 => rfl
      go_simp
      go_at_call 25
      refine (HRs.out _).mono ?_
      rintro e xs2 ⟨ys2, rfl, hbs2, hFs2⟩
      refine hK.out _ _ ((And2.fresh (fun _ _ h hk => SS.fresh h hk)) _ _ hXs1 hFs2) (fun hH => ?_)
      clear hK K
      refine reg_strong (S' := And2 (And2 (SS w b d N) ys1 ls) ys2 ls) (fun _ h => h.s) _ _ _ _ ?_
      have hXs2 : And2 (And2 (SS w b d N) ys1 ls) ys2 ls xs2 := ⟨hH, hbs2⟩
      clear hH hbs2 hFs2 hXs1
      refine reg_take (i := 11) (oi := ?o_37) (v := ?v_37) (listed' := #[true, true, true, true, true, true, true, true, true, true, true, true, false, false]) HO ?hi_37 hSel ?hf_37 ?hr_37 hQP (by kernel_rfl) ?hw_37 ?h_37 hXs2 ?_
      case hi_37 => (simp only [List.getElem?_toArray, List.getElem?_cons_succ, List.getElem?_cons_zero]; rfl)
      case hf_37 => kernel_rfl
      case hr_37 => kernel_rfl
      case hw_37 => rfl
      case h_37 => (intro W hSw; have q := strings_same hSw.b HLs.out; go_simp; first | done | with_reducible rfl)
      (try simp only [Act.put]); (try simp only [List.setIfInBounds_toArray]); (try simp only [List.set_cons_zero]); (try simp only [List.set_cons_succ])
      refine reg_take (i := 12) (oi := ?o_38) (v := ?v_38) (listed' := #[true, true, true, true, true, true, true, true, true, true, true, true, true, false]) HO ?hi_38 hSel ?hf_38 ?hr_38 hQP (by kernel_rfl) ?hw_38 ?h_38 hXs2 ?_
      case hi_38 => (simp only [List.getElem?_toArray, List.getElem?_cons_succ, List.getElem?_cons_zero]; rfl)
      case hf_38 => kernel_rfl
      case hr_38 => kernel_rfl
      case hw_38 => rfl
      case h_38 => (intro W hSw; go_simp; first | done | with_reducible rfl)
      (try simp only [Act.put]); (try simp only [List.setIfInBounds_toArray]); (try simp only [List.set_cons_zero]); (try simp only [List.set_cons_succ])
      refine reg_take (i := 13) (oi := ?o_39) (v := ?v_39) (listed' := #[true, true, true, true, true, true, true, true, true, true, true, true, true, true]) HO ?hi_39 hSel ?hf_39 ?hr_39 hQP (by kernel_rfl) ?hw_39 ?h_39 hXs2 ?_
      case hi_39 => (simp only [List.getElem?_toArray, List.getElem?_cons_succ, List.getElem?_cons_zero]; rfl)
      case hf_39 => kernel_rfl
      case hr_39 => kernel_rfl
      case hw_39 => rfl
      case h_39 => (intro W hSw; go_simp; first | done | with_reducible rfl)
      (try simp only [Act.put]); (try simp only [List.setIfInBounds_toArray]); (try simp only [List.set_cons_zero]); (try simp only [List.set_cons_succ])
      refine reg_done HO HQ (by kernel_rfl) ?_
      have HSs := Go.Lib.hid hXs2.s.s
      clear hXs2 HO HQ hQP hSel
      go_wp2_with (fail)
      refine (works_any _).mono ?_
      rintro e w9 ⟨rfl, hF9⟩
      have HFR := Go.Lib.hid (HSs.out.fr.fresh hF9)
      clear HSs hF9
      go_wp2
      go_ret
      exact ⟨rfl, HFR.out⟩
  | true =>
    obtain ⟨ql0, ql1, ql2⟩ := hBl rfl
    obtain ⟨ll, hll, hAl, hRl⟩ := dt8_same d N ql0 ql1 ql2
    have HLl := Go.Lib.hid hll
    have HAl := Go.Lib.hid hAl
    have HRl := Go.Lib.hid hRl
    clear hBl hll hAl hRl ql0 ql1 ql2
    refine reg_take (i := 3) (oi := ?o_40) (v := ?v_40) (listed' := #[true, true, true, true, false, false, false, false, false, false, false, false, false, false]) HO ?hi_40 hSel ?hf_40 ?hr_40 hQP (by kernel_rfl) ?hw_40 ?h_40 hXl0 ?_
    case hi_40 => (simp only [List.getElem?_toArray, List.getElem?_cons_succ, List.getElem?_cons_zero]; rfl)
    case hf_40 => kernel_rfl
    case hr_40 => kernel_rfl
    case hw_40 => rfl
    case h_40 => (intro W hSw; go_simp; first | done | with_reducible rfl)
    (try simp only [Act.put]); (try simp only [List.setIfInBounds_toArray]); (try simp only [List.set_cons_zero]); (try simp only [List.set_cons_succ])
    refine reg_take (i := 4) (oi := ?o_41) (v := ?v_41) (listed' := #[true, true, true, true, true, false, false, false, false, false, false, false, false, false]) HO ?hi_41 hSel ?hf_41 ?hr_41 hQP (by kernel_rfl) ?hw_41 ?h_41 hXl0 ?_
    case hi_41 => (simp only [List.getElem?_toArray, List.getElem?_cons_succ, List.getElem?_cons_zero]; rfl)
    case hf_41 => kernel_rfl
    case hr_41 => kernel_rfl
    case hw_41 => rfl
    case h_41 => (intro W hSw; go_simp; first | done | with_reducible rfl)
    (try simp only [Act.put]); (try simp only [List.setIfInBounds_toArray]); (try simp only [List.set_cons_zero]); (try simp only [List.set_cons_succ])
    refine reg_take (i := 5) (oi := ?o_42) (v := ?v_42) (listed' := #[true, true, true, true, true, true, false, false, false, false, false, false, false, false]) HO ?hi_42 hSel ?hf_42 ?hr_42 hQP (by kernel_rfl) ?hw_42 ?h_42 hXl0 ?_
    case hi_42 => (simp only [List.getElem?_toArray, List.getElem?_cons_succ, List.getElem?_cons_zero]; rfl)
    case hf_42 => kernel_rfl
    case hr_42 => kernel_rfl
    case hw_42 => rfl
    case h_42 => (intro W hSw; go_simp; first | done | with_reducible rfl)
    (try simp only [Act.put]); (try simp only [List.setIfInBounds_toArray]); (try simp only [List.set_cons_zero]); (try simp only [List.set_cons_succ])
    refine reg_take (i := 8) (oi := ?o_43) (v := ?v_43) (listed' := #[true, true, true, true, true, true, false, false, true, false, false, false, false, false]) HO ?hi_43 hSel ?hf_43 ?hr_43 hQP (by kernel_rfl) ?hw_43 ?h_43 hXl0 ?_
    case hi_43 => (simp only [List.getElem?_toArray, List.getElem?_cons_succ, List.getElem?_cons_zero]; rfl)
    case hf_43 => kernel_rfl
    case hr_43 => kernel_rfl
    case hw_43 => rfl
    case h_43 => (intro W hSw; obtain ⟨c0, c1, c2, c3, c4, c5⟩ := hSw.k0; go_simp; first | done | with_reducible rfl)
    (try simp only [Act.put]); (try simp only [List.setIfInBounds_toArray]); (try simp only [List.set_cons_zero]); (try simp only [List.set_cons_succ])
    refine reg_take (i := 9) (oi := ?o_44) (v := ?v_44) (listed' := #[true, true, true, true, true, true, false, false, true, true, false, false, false, false]) HO ?hi_44 hSel ?hf_44 ?hr_44 hQP (by kernel_rfl) ?hw_44 ?h_44 hXl0 ?_
    case hi_44 => (simp only [List.getElem?_toArray, List.getElem?_cons_succ, List.getElem?_cons_zero]; rfl)
    case hf_44 => kernel_rfl
    case hr_44 => kernel_rfl
    case hw_44 => rfl
    case h_44 => (intro W hSw; obtain ⟨c0, c1, c2, c3, c4, c5, c6, c7, c8⟩ := hSw.v; go_simp; first | done | with_reducible rfl)
    (try simp only [Act.put]); (try simp only [List.setIfInBounds_toArray]); (try simp only [List.set_cons_zero]); (try simp only [List.set_cons_succ])
    refine reg_one (i := 6) (o := ?o_45) (listed' := #[true, true, true, true, true, true, true, false, true, true, false, false, false, false]) HO ?hi_45 ?hr_45 (by kernel_rfl) ?hw_45 (fun K hK => ?_)
    case hi_45 => (simp only [List.getElem?_toArray, List.getElem?_cons_succ, List.getElem?_cons_zero]; rfl)
    case hr_45 => kernel_rfl
    case hw_45 => rfl
    go_simp
    go_at_call 24
    refine (HAl.out _).mono ?_
    rintro e xl1 ⟨yl1, rfl, hbl1, hFl1⟩
    refine hK.out _ _ (SS.fresh hXl0 hFl1) (fun hH => ?_)
    clear hK K
    refine reg_strong (S' := And2 (SS w b d N) yl1 ll) (fun _ h => h.s) _ _ _ _ ?_
    have hXl1 : And2 (SS w b d N) yl1 ll xl1 := ⟨hH, hbl1⟩
    clear hH hbl1 hFl1 hXl0
    refine reg_take (i := 7) (oi := ?o_46) (v := ?v_46) (listed' := #[true, true, true, true, true, true, true, true, true, true, false, false, false, false]) HO ?hi_46 hSel ?hf_46 ?hr_46 hQP (by kernel_rfl) ?hw_46 ?h_46 hXl1 ?_
    case hi_46 => (simp only [List.getElem?_toArray, List.getElem?_cons_succ, List.getElem?_cons_zero]; rfl)
    case hf_46 => kernel_rfl
    case hr_46 => kernel_rfl
    case hw_46 => rfl
    case h_46 => (intro W hSw; have q := strings_same hSw.b HLl.out; go_simp; first | done | with_reducible rfl)
    (try simp only [Act.put]); (try simp only [List.setIfInBounds_toArray]); (try simp only [List.set_cons_zero]); (try simp only [List.set_cons_succ])
    refine reg_one (i := 10) (o := ?o_47) (listed' := #[true, true, true, true, true, true, true, true, true, true, true, false, false, false]) HO ?hi_47 ?hr_47 (by kernel_rfl) ?hw_47 (fun K hK => ?_)
    case hi_47 => (simp only [List.getElem?_toArray, List.getElem?_cons_succ, List.getElem?_cons_zero]; rfl)
    case hr_47 => kernel_rfl
    case hw_47 => rfl
    go_simp
    go_at_call 25
    refine (HRl.out _).mono ?_
    rintro e xl2 ⟨yl2, rfl, hbl2, hFl2⟩
    refine hK.out _ _ ((And2.fresh (fun _ _ h hk => SS.fresh h hk)) _ _ hXl1 hFl2) (fun hH => ?_)
    clear hK K
    refine reg_strong (S' := And2 (And2 (SS w b d N) yl1 ll) yl2 ll) (fun _ h => h.s) _ _ _ _ ?_
    have hXl2 : And2 (And2 (SS w b d N) yl1 ll) yl2 ll xl2 := ⟨hH, hbl2⟩
    clear hH hbl2 hFl2 hXl1
    refine reg_take (i := 11) (oi := ?o_48) (v := ?v_48) (listed' := #[true, true, true, true, true, true, true, true, true, true, true, true, false, false]) HO ?hi_48 hSel ?hf_48 ?hr_48 hQP (by kernel_rfl) ?hw_48 ?h_48 hXl2 ?_
    case hi_48 => (simp only [List.getElem?_toArray, List.getElem?_cons_succ, List.getElem?_cons_zero]; rfl)
    case hf_48 => kernel_rfl
    case hr_48 => kernel_rfl
    case hw_48 => rfl
    case h_48 => (intro W hSw; have q := strings_same hSw.b HLl.out; go_simp; first | done | with_reducible rfl)
    (try simp only [Act.put]); (try simp only [List.setIfInBounds_toArray]); (try simp only [List.set_cons_zero]); (try simp only [List.set_cons_succ])
    refine reg_take (i := 12) (oi := ?o_49) (v := ?v_49) (listed' := #[true, true, true, true, true, true, true, true, true, true, true, true, true, false]) HO ?hi_49 hSel ?hf_49 ?hr_49 hQP (by kernel_rfl) ?hw_49 ?h_49 hXl2 ?_
    case hi_49 => (simp only [List.getElem?_toArray, List.getElem?_cons_succ, List.getElem?_cons_zero]; rfl)
    case hf_49 => kernel_rfl
    case hr_49 => kernel_rfl
    case hw_49 => rfl
    case h_49 => (intro W hSw; go_simp; first | done | with_reducible rfl)
    (try simp only [Act.put]); (try simp only [List.setIfInBounds_toArray]); (try simp only [List.set_cons_zero]); (try simp only [List.set_cons_succ])
    refine reg_take (i := 13) (oi := ?o_50) (v := ?v_50) (listed' := #[true, true, true, true, true, true, true, true, true, true, true, true, true, true]) HO ?hi_50 hSel ?hf_50 ?hr_50 hQP (by kernel_rfl) ?hw_50 ?h_50 hXl2 ?_
    case hi_50 => (simp only [List.getElem?_toArray, List.getElem?_cons_succ, List.getElem?_cons_zero]; rfl)
    case hf_50 => kernel_rfl
    case hr_50 => kernel_rfl
    case hw_50 => rfl
    case h_50 => (intro W hSw; go_simp; first | done | with_reducible rfl)
    (try simp only [Act.put]); (try simp only [List.setIfInBounds_toArray]); (try simp only [List.set_cons_zero]); (try simp only [List.set_cons_succ])
    refine reg_done HO HQ (by kernel_rfl) ?_
    have HSl := Go.Lib.hid hXl2.s.s
    clear hXl2 HO HQ hQP hSel
    go_upto_region 5 with (fail)
    have hd5 := HSl.out.fresh (Kept.refl _ _).drew
    clear HSl
    refine reg_open (S := SS w b d N) 14 #[false, false, false, false, false, false, false, false, false, false, false, false, false, false] (by kernel_rfl) (by kernel_rfl) (by kernel_rfl) (by intro c a d v w h; cases d <;> exact h) (by kernel_rfl) (fun OPS QQ HO HQ hQP hSel => ?_)
    generalize xl2.drew = v0s at *
    refine reg_take (i := 0) (oi := ?o_51) (v := ?v_51) (listed' := #[true, false, false, false, false, false, false, false, false, false, false, false, false, false]) HO ?hi_51 hSel ?hf_51 ?hr_51 hQP (by kernel_rfl) ?hw_51 ?h_51 hd5 ?_
    case hi_51 => (simp only [List.getElem?_toArray, List.getElem?_cons_zero]; rfl)
    case hf_51 => kernel_rfl
    case hr_51 => kernel_rfl
    case hw_51 => rfl
    case h_51 => (intro W hSw; obtain ⟨c0, c1, c2, c3, c4, c5⟩ := hSw.k1; go_simp; first | done | with_reducible rfl)
    (try simp only [Act.put]); (try simp only [List.setIfInBounds_toArray]); (try simp only [List.set_cons_zero]); (try simp only [List.set_cons_succ])
    refine reg_take (i := 1) (oi := ?o_52) (v := ?v_52) (listed' := #[true, true, false, false, false, false, false, false, false, false, false, false, false, false]) HO ?hi_52 hSel ?hf_52 ?hr_52 hQP (by kernel_rfl) ?hw_52 ?h_52 hd5 ?_
    case hi_52 => (simp only [List.getElem?_toArray, List.getElem?_cons_succ, List.getElem?_cons_zero]; rfl)
    case hf_52 => kernel_rfl
    case hr_52 => kernel_rfl
    case hw_52 => rfl
    case h_52 => (intro W hSw; obtain ⟨c0, c1, c2, c3, c4, c5, c6, c7, c8⟩ := hSw.v; go_simp; first | done | with_reducible rfl)
    (try simp only [Act.put]); (try simp only [List.setIfInBounds_toArray]); (try simp only [List.set_cons_zero]); (try simp only [List.set_cons_succ])
    refine reg_one (i := 2) (o := ?o_53) (listed' := #[true, true, true, false, false, false, false, false, false, false, false, false, false, false]) HO ?hi_53 ?hr_53 (by kernel_rfl) ?hw_53 (fun K hK => ?_)
    case hi_53 => (simp only [List.getElem?_toArray, List.getElem?_cons_succ, List.getElem?_cons_zero]; rfl)
    case hr_53 => kernel_rfl
    case hw_53 => rfl
    go_simp
    go_at_call 23
    refine (proper4_any d N _).mono ?_
    rintro e xs0 ⟨⟨bs, rfl, hBs⟩, hFs0⟩
    refine hK.out _ _ (SS.fresh hd5 hFs0) (fun hXs0 => ?_)
    clear hK K hFs0 hd5
    cases bs with
    | false =>
      clear hBs
      refine reg_take (i := 3) (oi := ?o_54) (v := ?v_54) (listed' := #[true, true, true, true, false, false, false, false, false, false, false, false, false, false]) HO ?hi_54 hSel ?hf_54 ?hr_54 hQP (by kernel_rfl) ?hw_54 ?h_54 hXs0 ?_
      case hi_54 => (simp only [List.getElem?_toArray, List.getElem?_cons_succ, List.getElem?_cons_zero]; rfl)
      case hf_54 => kernel_rfl
      case hr_54 => kernel_rfl
      case hw_54 => rfl
      case h_54 => (intro W hSw; go_simp; first | done | with_reducible rfl)
      (try simp only [Act.put]); (try simp only [List.setIfInBounds_toArray]); (try simp only [List.set_cons_zero]); (try simp only [List.set_cons_succ])
      refine reg_skip (i := 4) (oi := ?o_55) (listed' := #[true, true, true, true, true, false, false, false, false, false, false, false, false, false]) HO ?hi_55 hSel ?hf_55 ?hr_55 hQP (by kernel_rfl) ?hw_55 hXs0 ?_
      case hi_55 => (simp only [List.getElem?_toArray, List.getElem?_cons_succ, List.getElem?_cons_zero]; rfl)
      case hf_55 => kernel_rfl
      case hr_55 => kernel_rfl
      case hw_55 => rfl
      (try simp only [Act.put]); (try simp only [List.setIfInBounds_toArray]); (try simp only [List.set_cons_zero]); (try simp only [List.set_cons_succ])
      refine reg_skip (i := 5) (oi := ?o_56) (listed' := #[true, true, true, true, true, true, false, false, false, false, false, false, false, false]) HO ?hi_56 hSel ?hf_56 ?hr_56 hQP (by kernel_rfl) ?hw_56 hXs0 ?_
      case hi_56 => (simp only [List.getElem?_toArray, List.getElem?_cons_succ, List.getElem?_cons_zero]; rfl)
      case hf_56 => kernel_rfl
      case hr_56 => kernel_rfl
      case hw_56 => rfl
      (try simp only [Act.put]); (try simp only [List.setIfInBounds_toArray]); (try simp only [List.set_cons_zero]); (try simp only [List.set_cons_succ])
      refine reg_skip (i := 6) (oi := ?o_57) (listed' := #[true, true, true, true, true, true, true, false, false, false, false, false, false, false]) HO ?hi_57 hSel ?hf_57 ?hr_57 hQP (by kernel_rfl) ?hw_57 hXs0 ?_
      case hi_57 => (simp only [List.getElem?_toArray, List.getElem?_cons_succ, List.getElem?_cons_zero]; rfl)
      case hf_57 => kernel_rfl
      case hr_57 => kernel_rfl
      case hw_57 => rfl
      (try simp only [Act.put]); (try simp only [List.setIfInBounds_toArray]); (try simp only [List.set_cons_zero]); (try simp only [List.set_cons_succ])
      refine reg_skip (i := 7) (oi := ?o_58) (listed' := #[true, true, true, true, true, true, true, true, false, false, false, false, false, false]) HO ?hi_58 hSel ?hf_58 ?hr_58 hQP (by kernel_rfl) ?hw_58 hXs0 ?_
      case hi_58 => (simp only [List.getElem?_toArray, List.getElem?_cons_succ, List.getElem?_cons_zero]; rfl)
      case hf_58 => kernel_rfl
      case hr_58 => kernel_rfl
      case hw_58 => rfl
      (try simp only [Act.put]); (try simp only [List.setIfInBounds_toArray]); (try simp only [List.set_cons_zero]); (try simp only [List.set_cons_succ])
      refine reg_skip (i := 8) (oi := ?o_59) (listed' := #[true, true, true, true, true, true, true, true, true, false, false, false, false, false]) HO ?hi_59 hSel ?hf_59 ?hr_59 hQP (by kernel_rfl) ?hw_59 hXs0 ?_
      case hi_59 => (simp only [List.getElem?_toArray, List.getElem?_cons_succ, List.getElem?_cons_zero]; rfl)
      case hf_59 => kernel_rfl
      case hr_59 => kernel_rfl
      case hw_59 => rfl
      (try simp only [Act.put]); (try simp only [List.setIfInBounds_toArray]); (try simp only [List.set_cons_zero]); (try simp only [List.set_cons_succ])
      refine reg_skip (i := 9) (oi := ?o_60) (listed' := #[true, true, true, true, true, true, true, true, true, true, false, false, false, false]) HO ?hi_60 hSel ?hf_60 ?hr_60 hQP (by kernel_rfl) ?hw_60 hXs0 ?_
      case hi_60 => (simp only [List.getElem?_toArray, List.getElem?_cons_succ, List.getElem?_cons_zero]; rfl)
      case hf_60 => kernel_rfl
      case hr_60 => kernel_rfl
      case hw_60 => rfl
      (try simp only [Act.put]); (try simp only [List.setIfInBounds_toArray]); (try simp only [List.set_cons_zero]); (try simp only [List.set_cons_succ])
      refine reg_skip (i := 10) (oi := ?o_61) (listed' := #[true, true, true, true, true, true, true, true, true, true, true, false, false, false]) HO ?hi_61 hSel ?hf_61 ?hr_61 hQP (by kernel_rfl) ?hw_61 hXs0 ?_
      case hi_61 => (simp only [List.getElem?_toArray, List.getElem?_cons_succ, List.getElem?_cons_zero]; rfl)
      case hf_61 => kernel_rfl
      case hr_61 => kernel_rfl
      case hw_61 => rfl
      (try simp only [Act.put]); (try simp only [List.setIfInBounds_toArray]); (try simp only [List.set_cons_zero]); (try simp only [List.set_cons_succ])
      refine reg_skip (i := 11) (oi := ?o_62) (listed' := #[true, true, true, true, true, true, true, true, true, true, true, true, false, false]) HO ?hi_62 hSel ?hf_62 ?hr_62 hQP (by kernel_rfl) ?hw_62 hXs0 ?_
      case hi_62 => (simp only [List.getElem?_toArray, List.getElem?_cons_succ, List.getElem?_cons_zero]; rfl)
      case hf_62 => kernel_rfl
      case hr_62 => kernel_rfl
      case hw_62 => rfl
      (try simp only [Act.put]); (try simp only [List.setIfInBounds_toArray]); (try simp only [List.set_cons_zero]); (try simp only [List.set_cons_succ])
      refine reg_skip (i := 12) (oi := ?o_63) (listed' := #[true, true, true, true, true, true, true, true, true, true, true, true, true, false]) HO ?hi_63 hSel ?hf_63 ?hr_63 hQP (by kernel_rfl) ?hw_63 hXs0 ?_
      case hi_63 => (simp only [List.getElem?_toArray, List.getElem?_cons_succ, List.getElem?_cons_zero]; rfl)
      case hf_63 => kernel_rfl
      case hr_63 => kernel_rfl
      case hw_63 => rfl
      (try simp only [Act.put]); (try simp only [List.setIfInBounds_toArray]); (try simp only [List.set_cons_zero]); (try simp only [List.set_cons_succ])
      refine reg_take (i := 13) (oi := ?o_64) (v := ?v_64) (listed' := #[true, true, true, true, true, true, true, true, true, true, true, true, true, true]) HO ?hi_64 hSel ?hf_64 ?hr_64 hQP (by kernel_rfl) ?hw_64 ?h_64 hXs0 ?_
      case hi_64 => (simp only [List.getElem?_toArray, List.getElem?_cons_succ, List.getElem?_cons_zero]; rfl)
      case hf_64 => kernel_rfl
      case hr_64 => kernel_rfl
      case hw_64 => rfl
      case h_64 => (intro W hSw; go_simp; first | done | with_reducible rfl)
      (try simp only [Act.put]); (try simp only [List.setIfInBounds_toArray]); (try simp only [List.set_cons_zero]); (try simp only [List.set_cons_succ])
      refine reg_done HO HQ (by kernel_rfl) ?_
      have HSs := Go.Lib.hid hXs0
      clear hXs0 HO HQ hQP hSel
      go_wp2_with (fail)
      refine (works_any _).mono ?_
      rintro e w9 ⟨rfl, hF9⟩
      have HFR := Go.Lib.hid (HSs.out.fr.fresh hF9)
      clear HSs hF9
      go_wp2
      go_ret
      exact ⟨rfl, HFR.out⟩
    | true =>
      obtain ⟨qs0, qs1, qs2⟩ := hBs rfl
      obtain ⟨ls, hls, hAs, hRs⟩ := dt4_same d N qs0 qs1 qs2
      have HLs := Go.Lib.hid hls
      have HAs := Go.Lib.hid hAs
      have HRs := Go.Lib.hid hRs
      clear hBs hls hAs hRs qs0 qs1 qs2
      refine reg_take (i := 3) (oi := ?o_65) (v := ?v_65) (listed' := #[true, true, true, true, false, false, false, false, false, false, false, false, false, false]) HO ?hi_65 hSel ?hf_65 ?hr_65 hQP (by kernel_rfl) ?hw_65 ?h_65 hXs0 ?_
      case hi_65 => (simp only [List.getElem?_toArray, List.getElem?_cons_succ, List.getElem?_cons_zero]; rfl)
      case hf_65 => kernel_rfl
      case hr_65 => kernel_rfl
      case hw_65 => rfl
      case h_65 => (intro W hSw; go_simp; first | done | with_reducible rfl)
      (try simp only [Act.put]); (try simp only [List.setIfInBounds_toArray]); (try simp only [List.set_cons_zero]); (try simp only [List.set_cons_succ])
      refine reg_take (i := 4) (oi := ?o_66) (v := ?v_66) (listed' := #[true, true, true, true, true, false, false, false, false, false, false, false, false, false]) HO ?hi_66 hSel ?hf_66 ?hr_66 hQP (by kernel_rfl) ?hw_66 ?h_66 hXs0 ?_
      case hi_66 => (simp only [List.getElem?_toArray, List.getElem?_cons_succ, List.getElem?_cons_zero]; rfl)
      case hf_66 => kernel_rfl
      case hr_66 => kernel_rfl
      case hw_66 => rfl
      case h_66 => (intro W hSw; go_simp; first | done | with_reducible rfl)
      (try simp only [Act.put]); (try simp only [List.setIfInBounds_toArray]); (try simp only [List.set_cons_zero]); (try simp only [List.set_cons_succ])
      refine reg_take (i := 5) (oi := ?o_67) (v := ?v_67) (listed' := #[true, true, true, true, true, true, false, false, false, false, false, false, false, false]) HO ?hi_67 hSel ?hf_67 ?hr_67 hQP (by kernel_rfl) ?hw_67 ?h_67 hXs0 ?_
      case hi_67 => (simp only [List.getElem?_toArray, List.getElem?_cons_succ, List.getElem?_cons_zero]; rfl)
      case hf_67 => kernel_rfl
      case hr_67 => kernel_rfl
      case hw_67 => rfl
      case h_67 => (intro W hSw; go_simp; first | done | with_reducible rfl)
      (try simp only [Act.put]); (try simp only [List.setIfInBounds_toArray]); (try simp only [List.set_cons_zero]); (try simp only [List.set_cons_succ])
      refine reg_take (i := 8) (oi := ?o_68) (v := ?v_68) (listed' := #[true, true, true, true, true, true, false, false, true, false, false, false, false, false]) HO ?hi_68 hSel ?hf_68 ?hr_68 hQP (by kernel_rfl) ?hw_68 ?h_68 hXs0 ?_
      case hi_68 => (simp only [List.getElem?_toArray, List.getElem?_cons_succ, List.getElem?_cons_zero]; rfl)
      case hf_68 => kernel_rfl
      case hr_68 => kernel_rfl
      case hw_68 => rfl
      case h_68 => (intro W hSw; obtain ⟨c0, c1, c2, c3, c4, c5⟩ := hSw.k1; go_simp; first | done | with_reducible rfl)
      (try simp only [Act.put]); (try simp only [List.setIfInBounds_toArray]); (try simp only [List.set_cons_zero]); (try simp only [List.set_cons_succ])
      refine reg_take (i := 9) (oi := ?o_69) (v := ?v_69) (listed' := #[true, true, true, true, true, true, false, false, true, true, false, false, false, false]) HO ?hi_69 hSel ?hf_69 ?hr_69 hQP (by kernel_rfl) ?hw_69 ?h_69 hXs0 ?_
      case hi_69 => (simp only [List.getElem?_toArray, List.getElem?_cons_succ, List.getElem?_cons_zero]; rfl)
      case hf_69 => kernel_rfl
      case hr_69 => kernel_rfl
      case hw_69 => rfl
      case h_69 => (intro W hSw; obtain ⟨c0, c1, c2, c3, c4, c5, c6, c7, c8⟩ := hSw.v; go_simp; first | done | with_reducible rfl)
      (try simp only [Act.put]); (try simp only [List.setIfInBounds_toArray]); (try simp only [List.set_cons_zero]); (try simp only [List.set_cons_succ])
      refine reg_one (i := 6) (o := ?o_70) (listed' := #[true, true, true, true, true, true, true, false, true, true, false, false, false, false]) HO ?hi_70 ?hr_70 (by kernel_rfl) ?hw_70 (fun K hK => ?_)
      case hi_70 => (simp only [List.getElem?_toArray, List.getElem?_cons_succ, List.getElem?_cons_zero]; rfl)
      case hr_70 => kernel_rfl
      case hw_70 => rfl
      go_simp
      go_at_call 26
      refine (HAs.out _).mono ?_
      rintro e xs1 ⟨ys1, rfl, hbs1, hFs1⟩
      refine hK.out _ _ (SS.fresh hXs0 hFs1) (fun hH => ?_)
      clear hK K
      refine reg_strong (S' := And2 (SS w b d N) ys1 ls) (fun _ h => h.s) _ _ _ _ ?_
      have hXs1 : And2 (SS w b d N) ys1 ls xs1 := ⟨hH, hbs1⟩
      clear hH hbs1 hFs1 hXs0
      refine reg_take (i := 7) (oi := ?o_71) (v := ?v_71) (listed' := #[true, true, true, true, true, true, true, true, true, true, false, false, false, false]) HO ?hi_71 hSel ?hf_71 ?hr_71 hQP (by kernel_rfl) ?hw_71 ?h_71 hXs1 ?_
      case hi_71 => (simp only [List.getElem?_toArray, List.getElem?_cons_succ, List.getElem?_cons_zero]; rfl)
      case hf_71 => kernel_rfl
      case hr_71 => kernel_rfl
      case hw_71 => rfl
      case h_71 => (intro W hSw; have q := strings_same hSw.b HLs.out; go_simp; first | done | with_reducible rfl)
      (try simp only [Act.put]); (try simp only [List.setIfInBounds_toArray]); (try simp only [List.set_cons_zero]); (try simp only [List.set_cons_succ])
      refine reg_one (i := 10) (o := ?o_72) (listed' := #[true, true, true, true, true, true, true, true, true, true, true, false, false, false]) HO ?hi_72 ?hr_72 (by kernel_rfl) ?hw_72 (fun K hK => ?_)
      case hi_72 => (simp only [List.getElem?_toArray, List.getElem?_cons_succ, List.getElem?_cons_zero]; rfl)
      case hr_72 => kernel_rfl
      case hw_72 => rfl
      go_simp
      go_at_call 25
      refine (HRs.out _).mono ?_
      rintro e xs2 ⟨ys2, rfl, hbs2, hFs2⟩
      refine hK.out _ _ ((And2.fresh (fun _ _ h hk => SS.fresh h hk)) _ _ hXs1 hFs2) (fun hH => ?_)
      clear hK K
      refine reg_strong (S' := And2 (And2 (SS w b d N) ys1 ls) ys2 ls) (fun _ h => h.s) _ _ _ _ ?_
      have hXs2 : And2 (And2 (SS w b d N) ys1 ls) ys2 ls xs2 := ⟨hH, hbs2⟩
      clear hH hbs2 hFs2 hXs1
      refine reg_take (i := 11) (oi := ?o_73) (v := ?v_73) (listed' := #[true, true, true, true, true, true, true, true, true, true, true, true, false, false]) HO ?hi_73 hSel ?hf_73 ?hr_73 hQP (by kernel_rfl) ?hw_73 ?h_73 hXs2 ?_
      case hi_73 => (simp only [List.getElem?_toArray, List.getElem?_cons_succ, List.getElem?_cons_zero]; rfl)
      case hf_73 => kernel_rfl
      case hr_73 => kernel_rfl
      case hw_73 => rfl
      case h_73 => (intro W hSw; have q := strings_same hSw.b HLs.out; go_simp; first | done | with_reducible rfl)
      (try simp only [Act.put]); (try simp only [List.setIfInBounds_toArray]); (try simp only [List.set_cons_zero]); (try simp only [List.set_cons_succ])
      refine reg_take (i := 12) (oi := ?o_74) (v := ?v_74) (listed' := #[true, true, true, true, true, true, true, true, true, true, true, true, true, false]) HO ?hi_74 hSel ?hf_74 ?hr_74 hQP (by kernel_rfl) ?hw_74 ?h_74 hXs2 ?_
      case hi_74 => (simp only [List.getElem?_toArray, List.getElem?_cons_succ, List.getElem?_cons_zero]; rfl)
      case hf_74 => kernel_rfl
      case hr_74 => kernel_rfl
      case hw_74 => rfl
      case h_74 => (intro W hSw; go_simp; first | done | with_reducible rfl)
      (try simp only [Act.put]); (try simp only [List.setIfInBounds_toArray]); (try simp only [List.set_cons_zero]); (try simp only [List.set_cons_succ])
      refine reg_take (i := 13) (oi := ?o_75) (v := ?v_75) (listed' := #[true, true, true, true, true, true, true, true, true, true, true, true, true, true]) HO ?hi_75 hSel ?hf_75 ?hr_75 hQP (by kernel_rfl) ?hw_75 ?h_75 hXs2 ?_
      case hi_75 => (simp only [List.getElem?_toArray, List.getElem?_cons_succ, List.getElem?_cons_zero]; rfl)
      case hf_75 => kernel_rfl
      case hr_75 => kernel_rfl
      case hw_75 => rfl
      case h_75 => (intro W hSw; go_simp; first | done | with_reducible rfl)
      (try simp only [Act.put]); (try simp only [List.setIfInBounds_toArray]); (try simp only [List.set_cons_zero]); (try simp only [List.set_cons_succ])
      refine reg_done HO HQ (by kernel_rfl) ?_
      have HSs := Go.Lib.hid hXs2.s.s
      clear hXs2 HO HQ hQP hSel
      go_wp2_with (fail)
      refine (works_any _).mono ?_
      rintro e w9 ⟨rfl, hF9⟩
      have HFR := Go.Lib.hid (HSs.out.fr.fresh hF9)
      clear HSs hF9
      go_wp2
      go_ret
      exact ⟨rfl, HFR.out⟩
end Go.Proofs.Ytahcaoenddapoaa
