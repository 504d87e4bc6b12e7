/- slices.SortFunc over options: the comparator, the insertion sort. slices.SortFunc over few options: sorted. -/
import Derived.Test.YtahcaoenddapoaaSrt3
import Derived.Test.YtahcaoenddapoaaOrw
import Derived.Deep.Cut
import Derived.IntWalk
import Derived.Deep.QuietTactic
import Derived.BigQuiet
import Derived.Deep.RegionHeld3
namespace Go.Proofs.Ytahcaoenddapoaa
section
open Go.RowKit

theorem enter70 (args : Array Value) (W : World) : (callFunc 70 args).run Try.prog W = .ok (.enter 70 args) W := run_enter Try.func70 (by kernel_rfl) (by kernel_rfl) args W

set_option maxRecDepth 100000 in
theorem cmp_any (a b : Nat) (x y : Value) (ha : a < 256) (hb : b < 256) (w : World) (_ : x.oneCell' = true) (_ : y.oneCell' = true) :
    Calls Try.prog 70 #[.agg #[.int .i64 a, x], .agg #[.int .i64 b, y]] w fun e w' => e = .returned (.int .i64 ((a : Int) - (b : Int))) ∧ Fresh w w' := by
  have hf := World.new_ne w
  have hwr : IntKind.i64.wrap ((a : Int) - (b : Int)) = (a : Int) - (b : Int) := IntWalk.i64_in _ (by omega)
  go_enter Try.func70, Try.ntmps70
  go_wp2_with (fail)
  go_ret
  exact ⟨rfl, ((Kept.refl w _).alloc _).alloc _⟩

set_option maxRecDepth 100000 in
set_option maxHeartbeats 2000000 in
theorem isortc_any (base g n c : Nat) (l : List (Nat × Value)) (w : World) (h : RowO 61 base w (.slice (some ⟨g, 0, none⟩) n c) l) (hln : l.length = n) (hd : (l.map Prod.fst).Nodup) (h1 : 1 ≤ n) (hn : n ≤ 1000) (h256 : ∀ x ∈ l, x.1 < 256 ∧ x.2.oneCell' = true) :
    Calls Try.prog 129 #[.slice (some ⟨g, 0, none⟩) n c, .int .i64 0, .int .i64 n, .func (.func 70) #[] #[]] w fun e w' => e = .returned (.tuple #[]) ∧ ∃ l', l'.Perm l ∧ Upto Prod.fst l' l'.length ∧ RowO 61 base w' (.slice (some ⟨g, 0, none⟩) n c) l' ∧ Kept w w' (fun k => k = g) := by
  have HR := Go.Lib.hid h
  have HD := Go.Lib.hid hd
  have HL := Go.Lib.hid hln
  have HX := Go.Lib.hid h256
  clear h hd hln h256
  have hen := enter70
  go_enter Try.func129, Try.ntmps129
  go_wp2_with (fail)
  go_loopw [8] (fun i wr => ∃ (k : Nat) (m : List (Nat × Value)), 1 ≤ k ∧ k ≤ n ∧ i = .int .i64 (k : Int) ∧ m.Perm l ∧ Upto Prod.fst m k ∧ RowO 61 base wr (.slice (some ⟨g, 0, none⟩) n c) m ∧ Kept w wr (fun j => j = g)) (fun i _ => n - (intOf i).toNat)
  case atStart => exact ⟨1, l, by omega, by omega, rfl, List.Perm.refl _, fun a b _ _ hab hb => by omega, HR.out, Kept.refl _ _⟩
  case round =>
    obtain ⟨k, m, hk1, hkn, rfl, hp, hu, hr, hK⟩ := hrel
    have hml : m.length = n := by rw [hp.length_eq, HL.out]
    have HP := Go.Lib.hid hp
    have HU := Go.Lib.hid hu
    have HRR := Go.Lib.hid hr
    have HK := Go.Lib.hid hK
    have HML := Go.Lib.hid hml
    clear hp hu hr hK hml
    by_cases hlt : k < n
    · have i1 : (k : Int) < (n : Int) := by omega
      go_wp2_with (fail)
      go_loopw [9] (fun j wq => ∃ (q : Nat) (m' : List (Nat × Value)), j = .int .i64 (q : Int) ∧ m'.Perm l ∧ Down Prod.fst m' k q ∧ RowO 61 base wq (.slice (some ⟨g, 0, none⟩) n c) m' ∧ Kept w wq (fun j => j = g)) (fun j _ => (intOf j).toNat)
      case atStart => exact ⟨k, m, rfl, HP.out, Down.start HU.out (by have := HML.out; omega), HRR.out, HK.out⟩
      case round =>
        obtain ⟨q, m', rfl, hp', hdw, hr', hK'⟩ := hrel
        have hml' : m'.length = n := by rw [hp'.length_eq, HL.out]
        have hji := hdw.ji
        have hne : ∀ a b (ha : a < m'.length) (hb : b < m'.length), a ≠ b → m'[a].1 ≠ m'[b].1 := by
          intro a b ha hb hab
          have h1 := nodup_get ((hp'.map Prod.fst).nodup_iff.2 HD.out) a b (by simpa using ha) (by simpa using hb) hab
          simpa using h1
        have HP' := Go.Lib.hid hp'
        have HDW := Go.Lib.hid hdw
        have HR' := Go.Lib.hid hr'
        have HK' := Go.Lib.hid hK'
        have HML' := Go.Lib.hid hml'
        have HNE := Go.Lib.hid hne
        clear hp' hdw hr' hK' hml' hne
        by_cases hq : q = 0
        · have HU2 := Go.Lib.hid (HDW.out.done (.inl hq) HNE.out)
          have hq0 : ¬ (0 : Int) < (q : Int) := by omega
          have hqn : ¬ 0 < q := by omega
          have hqd : decide (0 < q) = false := by simpa using hqn
          clear hq
          go_upto_region 4 with (fail)
          refine reg_open (S := fun _ => True) 17 #[false, false, false, false, false, false, false, false, false, false, false, false, false, false, false, false, false] (by kernel_rfl) (by kernel_rfl) (by kernel_rfl) (by intro c a d v w h; cases d <;> exact h) (by kernel_rfl) (fun OPS QQ HO HQ hQP hSel => ?_)
          refine reg_take (i := 0) (oi := ?o_44) (v := ?v_44) (listed' := #[true, false, false, false, false, false, false, false, false, false, false, false, false, false, false, false, false]) HO ?hi_44 hSel ?hf_44 ?hr_44 hQP (by kernel_rfl) ?hw_44 ?h_44 trivial ?_
          case hi_44 => (simp only [List.getElem?_toArray, List.getElem?_cons_zero]; rfl)
          case hf_44 => kernel_rfl
          case hr_44 => kernel_rfl
          case hw_44 => rfl
          case h_44 => (intro W hSw; go_simp; first | done | with_reducible rfl)
          (try simp only [Act.put]); (try simp only [List.setIfInBounds_toArray]); (try simp only [List.set_cons_zero]); (try simp only [List.set_cons_succ])
          refine reg_take (i := 1) (oi := ?o_45) (v := ?v_45) (listed' := #[true, true, false, false, false, false, false, false, false, false, false, false, false, false, false, false, false]) HO ?hi_45 hSel ?hf_45 ?hr_45 hQP (by kernel_rfl) ?hw_45 ?h_45 trivial ?_
          case hi_45 => (simp only [List.getElem?_toArray, List.getElem?_cons_succ, List.getElem?_cons_zero]; rfl)
          case hf_45 => kernel_rfl
          case hr_45 => kernel_rfl
          case hw_45 => rfl
          case h_45 => (intro W hSw; go_simp; first | done | with_reducible rfl)
          (try simp only [Act.put]); (try simp only [List.setIfInBounds_toArray]); (try simp only [List.set_cons_zero]); (try simp only [List.set_cons_succ])
          refine reg_take (i := 2) (oi := ?o_46) (v := ?v_46) (listed' := #[true, true, true, false, false, false, false, false, false, false, false, false, false, false, false, false, false]) HO ?hi_46 hSel ?hf_46 ?hr_46 hQP (by kernel_rfl) ?hw_46 ?h_46 trivial ?_
          case hi_46 => (simp only [List.getElem?_toArray, List.getElem?_cons_succ, List.getElem?_cons_zero]; rfl)
          case hf_46 => kernel_rfl
          case hr_46 => kernel_rfl
          case hw_46 => rfl
          case h_46 => (intro W hSw; go_simp; first | done | with_reducible rfl)
          (try simp only [Act.put]); (try simp only [List.setIfInBounds_toArray]); (try simp only [List.set_cons_zero]); (try simp only [List.set_cons_succ])
          refine reg_take (i := 3) (oi := ?o_47) (v := ?v_47) (listed' := #[true, true, true, true, false, false, false, false, false, false, false, false, false, false, false, false, false]) HO ?hi_47 hSel ?hf_47 ?hr_47 hQP (by kernel_rfl) ?hw_47 ?h_47 trivial ?_
          case hi_47 => (simp only [List.getElem?_toArray, List.getElem?_cons_succ, List.getElem?_cons_zero]; rfl)
          case hf_47 => kernel_rfl
          case hr_47 => kernel_rfl
          case hw_47 => rfl
          case h_47 => (intro W hSw; go_simp; first | done | with_reducible rfl)
          (try simp only [Act.put]); (try simp only [List.setIfInBounds_toArray]); (try simp only [List.set_cons_zero]); (try simp only [List.set_cons_succ])
          refine reg_skip (i := 4) (oi := ?o_48) (listed' := #[true, true, true, true, true, false, false, false, false, false, false, false, false, false, false, false, false]) HO ?hi_48 hSel ?hf_48 ?hr_48 hQP (by kernel_rfl) ?hw_48 trivial ?_
          case hi_48 => (simp only [List.getElem?_toArray, List.getElem?_cons_succ, List.getElem?_cons_zero]; rfl)
          case hf_48 => kernel_rfl
          case hr_48 => kernel_rfl
          case hw_48 => rfl
          (try simp only [Act.put]); (try simp only [List.setIfInBounds_toArray]); (try simp only [List.set_cons_zero]); (try simp only [List.set_cons_succ])
          refine reg_skip (i := 5) (oi := ?o_49) (listed' := #[true, true, true, true, true, true, false, false, false, false, false, false, false, false, false, false, false]) HO ?hi_49 hSel ?hf_49 ?hr_49 hQP (by kernel_rfl) ?hw_49 trivial ?_
          case hi_49 => (simp only [List.getElem?_toArray, List.getElem?_cons_succ, List.getElem?_cons_zero]; rfl)
          case hf_49 => kernel_rfl
          case hr_49 => kernel_rfl
          case hw_49 => rfl
          (try simp only [Act.put]); (try simp only [List.setIfInBounds_toArray]); (try simp only [List.set_cons_zero]); (try simp only [List.set_cons_succ])
          refine reg_skip (i := 6) (oi := ?o_50) (listed' := #[true, true, true, true, true, true, true, false, false, false, false, false, false, false, false, false, false]) HO ?hi_50 hSel ?hf_50 ?hr_50 hQP (by kernel_rfl) ?hw_50 trivial ?_
          case hi_50 => (simp only [List.getElem?_toArray, List.getElem?_cons_succ, List.getElem?_cons_zero]; rfl)
          case hf_50 => kernel_rfl
          case hr_50 => kernel_rfl
          case hw_50 => rfl
          (try simp only [Act.put]); (try simp only [List.setIfInBounds_toArray]); (try simp only [List.set_cons_zero]); (try simp only [List.set_cons_succ])
          refine reg_skip (i := 7) (oi := ?o_51) (listed' := #[true, true, true, true, true, true, true, true, false, false, false, false, false, false, false, false, false]) HO ?hi_51 hSel ?hf_51 ?hr_51 hQP (by kernel_rfl) ?hw_51 trivial ?_
          case hi_51 => (simp only [List.getElem?_toArray, List.getElem?_cons_succ, List.getElem?_cons_zero]; rfl)
          case hf_51 => kernel_rfl
          case hr_51 => kernel_rfl
          case hw_51 => rfl
          (try simp only [Act.put]); (try simp only [List.setIfInBounds_toArray]); (try simp only [List.set_cons_zero]); (try simp only [List.set_cons_succ])
          refine reg_skip (i := 8) (oi := ?o_52) (listed' := #[true, true, true, true, true, true, true, true, true, false, false, false, false, false, false, false, false]) HO ?hi_52 hSel ?hf_52 ?hr_52 hQP (by kernel_rfl) ?hw_52 trivial ?_
          case hi_52 => (simp only [List.getElem?_toArray, List.getElem?_cons_succ, List.getElem?_cons_zero]; rfl)
          case hf_52 => kernel_rfl
          case hr_52 => kernel_rfl
          case hw_52 => rfl
          (try simp only [Act.put]); (try simp only [List.setIfInBounds_toArray]); (try simp only [List.set_cons_zero]); (try simp only [List.set_cons_succ])
          refine reg_skip (i := 9) (oi := ?o_53) (listed' := #[true, true, true, true, true, true, true, true, true, true, false, false, false, false, false, false, false]) HO ?hi_53 hSel ?hf_53 ?hr_53 hQP (by kernel_rfl) ?hw_53 trivial ?_
          case hi_53 => (simp only [List.getElem?_toArray, List.getElem?_cons_succ, List.getElem?_cons_zero]; rfl)
          case hf_53 => kernel_rfl
          case hr_53 => kernel_rfl
          case hw_53 => rfl
          (try simp only [Act.put]); (try simp only [List.setIfInBounds_toArray]); (try simp only [List.set_cons_zero]); (try simp only [List.set_cons_succ])
          refine reg_skip (i := 10) (oi := ?o_54) (listed' := #[true, true, true, true, true, true, true, true, true, true, true, false, false, false, false, false, false]) HO ?hi_54 hSel ?hf_54 ?hr_54 hQP (by kernel_rfl) ?hw_54 trivial ?_
          case hi_54 => (simp only [List.getElem?_toArray, List.getElem?_cons_succ, List.getElem?_cons_zero]; rfl)
          case hf_54 => kernel_rfl
          case hr_54 => kernel_rfl
          case hw_54 => rfl
          (try simp only [Act.put]); (try simp only [List.setIfInBounds_toArray]); (try simp only [List.set_cons_zero]); (try simp only [List.set_cons_succ])
          refine reg_skip (i := 11) (oi := ?o_55) (listed' := #[true, true, true, true, true, true, true, true, true, true, true, true, false, false, false, false, false]) HO ?hi_55 hSel ?hf_55 ?hr_55 hQP (by kernel_rfl) ?hw_55 trivial ?_
          case hi_55 => (simp only [List.getElem?_toArray, List.getElem?_cons_succ, List.getElem?_cons_zero]; rfl)
          case hf_55 => kernel_rfl
          case hr_55 => kernel_rfl
          case hw_55 => rfl
          (try simp only [Act.put]); (try simp only [List.setIfInBounds_toArray]); (try simp only [List.set_cons_zero]); (try simp only [List.set_cons_succ])
          refine reg_skip (i := 12) (oi := ?o_56) (listed' := #[true, true, true, true, true, true, true, true, true, true, true, true, true, false, false, false, false]) HO ?hi_56 hSel ?hf_56 ?hr_56 hQP (by kernel_rfl) ?hw_56 trivial ?_
          case hi_56 => (simp only [List.getElem?_toArray, List.getElem?_cons_succ, List.getElem?_cons_zero]; rfl)
          case hf_56 => kernel_rfl
          case hr_56 => kernel_rfl
          case hw_56 => rfl
          (try simp only [Act.put]); (try simp only [List.setIfInBounds_toArray]); (try simp only [List.set_cons_zero]); (try simp only [List.set_cons_succ])
          refine reg_skip (i := 13) (oi := ?o_57) (listed' := #[true, true, true, true, true, true, true, true, true, true, true, true, true, true, false, false, false]) HO ?hi_57 hSel ?hf_57 ?hr_57 hQP (by kernel_rfl) ?hw_57 trivial ?_
          case hi_57 => (simp only [List.getElem?_toArray, List.getElem?_cons_succ, List.getElem?_cons_zero]; rfl)
          case hf_57 => kernel_rfl
          case hr_57 => kernel_rfl
          case hw_57 => rfl
          (try simp only [Act.put]); (try simp only [List.setIfInBounds_toArray]); (try simp only [List.set_cons_zero]); (try simp only [List.set_cons_succ])
          refine reg_skip (i := 14) (oi := ?o_58) (listed' := #[true, true, true, true, true, true, true, true, true, true, true, true, true, true, true, false, false]) HO ?hi_58 hSel ?hf_58 ?hr_58 hQP (by kernel_rfl) ?hw_58 trivial ?_
          case hi_58 => (simp only [List.getElem?_toArray, List.getElem?_cons_succ, List.getElem?_cons_zero]; rfl)
          case hf_58 => kernel_rfl
          case hr_58 => kernel_rfl
          case hw_58 => rfl
          (try simp only [Act.put]); (try simp only [List.setIfInBounds_toArray]); (try simp only [List.set_cons_zero]); (try simp only [List.set_cons_succ])
          refine reg_skip (i := 15) (oi := ?o_59) (listed' := #[true, true, true, true, true, true, true, true, true, true, true, true, true, true, true, true, false]) HO ?hi_59 hSel ?hf_59 ?hr_59 hQP (by kernel_rfl) ?hw_59 trivial ?_
          case hi_59 => (simp only [List.getElem?_toArray, List.getElem?_cons_succ, List.getElem?_cons_zero]; rfl)
          case hf_59 => kernel_rfl
          case hr_59 => kernel_rfl
          case hw_59 => rfl
          (try simp only [Act.put]); (try simp only [List.setIfInBounds_toArray]); (try simp only [List.set_cons_zero]); (try simp only [List.set_cons_succ])
          refine reg_take (i := 16) (oi := ?o_60) (v := ?v_60) (listed' := #[true, true, true, true, true, true, true, true, true, true, true, true, true, true, true, true, true]) HO ?hi_60 hSel ?hf_60 ?hr_60 hQP (by kernel_rfl) ?hw_60 ?h_60 trivial ?_
          case hi_60 => (simp only [List.getElem?_toArray, List.getElem?_cons_succ, List.getElem?_cons_zero]; rfl)
          case hf_60 => kernel_rfl
          case hr_60 => kernel_rfl
          case hw_60 => rfl
          case h_60 => (intro W hSw; go_simp; first | done | with_reducible rfl)
          (try simp only [Act.put]); (try simp only [List.setIfInBounds_toArray]); (try simp only [List.set_cons_zero]); (try simp only [List.set_cons_succ])
          refine reg_done HO HQ (by kernel_rfl) ?_
          have HR2 := Go.Lib.hid (HR'.out.fresh ((Kept.refl wr _).drew))
          have HK2 := Go.Lib.hid (HK'.out.drew)
          clear HO HQ hQP hSel
          generalize wr.drew = x0 at *
          go_wp2_with (fail)
          exact ⟨⟨k + 1, m', by omega, by omega, by go_num, HP'.out, HU2.out, HR2.out, HK2.out⟩, by simp [intOf]; omega⟩
        · have hq0 : (0 : Int) < (q : Int) := by omega
          have hqn : 0 < q := by omega
          have hqd : decide (0 < q) = true := by simpa using hqn
          have hb : q < m'.length ∧ q - 1 < m'.length := by have := HML'.out; omega
          have hxq := HX.out _ (HP'.out.mem_iff.1 (List.getElem_mem hb.1))
          have hxp := HX.out _ (HP'.out.mem_iff.1 (List.getElem_mem hb.2))
          have hcells : ∀ W, RowO 61 base W (.slice (some ⟨g, 0, none⟩) n c) m' → W.cell? ⟨g, q * 2, none⟩ = some (.int .i64 (((m'[q]'hb.1).1 : Nat) : Int)) ∧ W.cell? ⟨g, q * 2 + 1, none⟩ = some (m'[q]'hb.1).2 ∧ W.cell? ⟨g, (q - 1) * 2, none⟩ = some (.int .i64 (((m'[q - 1]'hb.2).1 : Nat) : Int)) ∧ W.cell? ⟨g, (q - 1) * 2 + 1, none⟩ = some (m'[q - 1]'hb.2).2 := fun W hW => ⟨hW.cell0 HML'.out q hb.1, hW.cell1 HML'.out q hb.1, hW.cell0 HML'.out (q - 1) hb.2, hW.cell1 HML'.out (q - 1) hb.2⟩
          have hnext : (m'[q]'hb.1).1 < (m'[q - 1]'hb.2).1 → Down Prod.fst (swapAt m' q (q - 1) hb) k (q - 1) := fun h => HDW.out.next hqn hb h
          have hdone : ¬ (m'[q]'hb.1).1 < (m'[q - 1]'hb.2).1 → Upto Prod.fst m' (k + 1) := fun h => HDW.out.done (.inr ⟨hqn, h⟩) HNE.out
          have hsw : swapAt m' q (q - 1) hb = (m'.set q (m'[q - 1]'hb.2)).set (q - 1) (m'[q]'hb.1) := rfl
          have hpn := (swapAt_perm m' q (q - 1) hb).trans HP'.out
          generalize swapAt m' q (q - 1) hb = ms at *
          generalize m'[q]'hb.1 = xq at *
          generalize m'[q - 1]'hb.2 = xp at *
          obtain ⟨aq, zq⟩ := xq
          obtain ⟨ap, zp⟩ := xp
          obtain ⟨hq1, hq2⟩ := hxq
          obtain ⟨hp1, hp2⟩ := hxp
          have hstp : ∀ (a : Addr) (m : Mode) (W : World), (store a zp m).run Try.prog W = stored Try.prog W a zp m := fun a m W => run_store Try.prog W a _ m hp2
          have hstq : ∀ (a : Addr) (m : Mode) (W : World), (store a zq m).run Try.prog W = stored Try.prog W a zq m := fun a m W => run_store Try.prog W a _ m hq2
          have HC := Go.Lib.hid hcells
          have HNX := Go.Lib.hid hnext
          have HDO := Go.Lib.hid hdone
          have HSW := Go.Lib.hid hsw
          have HPN := Go.Lib.hid hpn
          clear hcells hnext hdone hsw hpn
          have hb1 := hb.1
          have hb2 := hb.2
          have HB := Go.Lib.hid hb
          clear hb
          have iqn : (q : Int) < (n : Int) := by have := HML'.out; omega
          have iq1 : (q : Int) - 1 < (n : Int) := by omega
          have iq2 : (1 : Int) ≤ (q : Int) := by omega
          have iq0 : (0 : Int) ≤ (q : Int) - 1 := by omega
          have tq : ((q : Int) - 1).toNat = q - 1 := by omega
          have wq : IntKind.i64.wrap ((q : Int) - 1) = (q : Int) - 1 := IntWalk.i64_in _ (by omega)
          go_upto_region 4 with (fail)
          refine reg_open (S := fun W => RowO 61 base W (.slice (some ⟨g, 0, none⟩) n c) m') 17 #[false, false, false, false, false, false, false, false, false, false, false, false, false, false, false, false, false] (by kernel_rfl) (by kernel_rfl) (by kernel_rfl) (by intro c a d v w h; cases d <;> exact h) (by kernel_rfl) (fun OPS QQ HO HQ hQP hSel => ?_)
          have hS0 : RowO 61 base wr.drew (.slice (some ⟨g, 0, none⟩) n c) m' := HR'.out.fresh ((Kept.refl wr _).drew)
          refine reg_take (i := 0) (oi := ?o_1) (v := ?v_1) (listed' := #[true, false, false, false, false, false, false, false, false, false, false, false, false, false, false, false, false]) HO ?hi_1 hSel ?hf_1 ?hr_1 hQP (by kernel_rfl) ?hw_1 ?h_1 hS0 ?_
          case hi_1 => (simp only [List.getElem?_toArray, List.getElem?_cons_zero]; rfl)
          case hf_1 => kernel_rfl
          case hr_1 => kernel_rfl
          case hw_1 => rfl
          case h_1 => (intro W hSw; go_simp; first | done | with_reducible rfl)
          (try simp only [Act.put]); (try simp only [List.setIfInBounds_toArray]); (try simp only [List.set_cons_zero]); (try simp only [List.set_cons_succ])
          refine reg_take (i := 1) (oi := ?o_2) (v := ?v_2) (listed' := #[true, true, false, false, false, false, false, false, false, false, false, false, false, false, false, false, false]) HO ?hi_2 hSel ?hf_2 ?hr_2 hQP (by kernel_rfl) ?hw_2 ?h_2 hS0 ?_
          case hi_2 => (simp only [List.getElem?_toArray, List.getElem?_cons_succ, List.getElem?_cons_zero]; rfl)
          case hf_2 => kernel_rfl
          case hr_2 => kernel_rfl
          case hw_2 => rfl
          case h_2 => (intro W hSw; go_simp; first | done | with_reducible rfl)
          (try simp only [Act.put]); (try simp only [List.setIfInBounds_toArray]); (try simp only [List.set_cons_zero]); (try simp only [List.set_cons_succ])
          refine reg_take (i := 2) (oi := ?o_3) (v := ?v_3) (listed' := #[true, true, true, false, false, false, false, false, false, false, false, false, false, false, false, false, false]) HO ?hi_3 hSel ?hf_3 ?hr_3 hQP (by kernel_rfl) ?hw_3 ?h_3 hS0 ?_
          case hi_3 => (simp only [List.getElem?_toArray, List.getElem?_cons_succ, List.getElem?_cons_zero]; rfl)
          case hf_3 => kernel_rfl
          case hr_3 => kernel_rfl
          case hw_3 => rfl
          case h_3 => (intro W hSw; go_simp; first | done | with_reducible rfl)
          (try simp only [Act.put]); (try simp only [List.setIfInBounds_toArray]); (try simp only [List.set_cons_zero]); (try simp only [List.set_cons_succ])
          refine reg_take (i := 3) (oi := ?o_4) (v := ?v_4) (listed' := #[true, true, true, true, false, false, false, false, false, false, false, false, false, false, false, false, false]) HO ?hi_4 hSel ?hf_4 ?hr_4 hQP (by kernel_rfl) ?hw_4 ?h_4 hS0 ?_
          case hi_4 => (simp only [List.getElem?_toArray, List.getElem?_cons_succ, List.getElem?_cons_zero]; rfl)
          case hf_4 => kernel_rfl
          case hr_4 => kernel_rfl
          case hw_4 => rfl
          case h_4 => (intro W hSw; go_simp; first | done | with_reducible rfl)
          (try simp only [Act.put]); (try simp only [List.setIfInBounds_toArray]); (try simp only [List.set_cons_zero]); (try simp only [List.set_cons_succ])
          refine reg_take (i := 4) (oi := ?o_5) (v := ?v_5) (listed' := #[true, true, true, true, true, false, false, false, false, false, false, false, false, false, false, false, false]) HO ?hi_5 hSel ?hf_5 ?hr_5 hQP (by kernel_rfl) ?hw_5 ?h_5 hS0 ?_
          case hi_5 => (simp only [List.getElem?_toArray, List.getElem?_cons_succ, List.getElem?_cons_zero]; rfl)
          case hf_5 => kernel_rfl
          case hr_5 => kernel_rfl
          case hw_5 => rfl
          case h_5 => (intro W hSw; go_simp; first | done | with_reducible rfl)
          (try simp only [Act.put]); (try simp only [List.setIfInBounds_toArray]); (try simp only [List.set_cons_zero]); (try simp only [List.set_cons_succ])
          refine reg_take (i := 5) (oi := ?o_6) (v := ?v_6) (listed' := #[true, true, true, true, true, true, false, false, false, false, false, false, false, false, false, false, false]) HO ?hi_6 hSel ?hf_6 ?hr_6 hQP (by kernel_rfl) ?hw_6 ?h_6 hS0 ?_
          case hi_6 => (simp only [List.getElem?_toArray, List.getElem?_cons_succ, List.getElem?_cons_zero]; rfl)
          case hf_6 => kernel_rfl
          case hr_6 => kernel_rfl
          case hw_6 => rfl
          case h_6 => (intro W hSw; go_simp; first | done | with_reducible rfl)
          (try simp only [Act.put]); (try simp only [List.setIfInBounds_toArray]); (try simp only [List.set_cons_zero]); (try simp only [List.set_cons_succ])
          refine reg_take (i := 6) (oi := ?o_7) (v := ?v_7) (listed' := #[true, true, true, true, true, true, true, false, false, false, false, false, false, false, false, false, false]) HO ?hi_7 hSel ?hf_7 ?hr_7 hQP (by kernel_rfl) ?hw_7 ?h_7 hS0 ?_
          case hi_7 => (simp only [List.getElem?_toArray, List.getElem?_cons_succ, List.getElem?_cons_zero]; rfl)
          case hf_7 => kernel_rfl
          case hr_7 => kernel_rfl
          case hw_7 => rfl
          case h_7 => (intro W hSw; go_simp; first | done | with_reducible rfl)
          (try simp only [Act.put]); (try simp only [List.setIfInBounds_toArray]); (try simp only [List.set_cons_zero]); (try simp only [List.set_cons_succ])
          refine reg_take (i := 7) (oi := ?o_8) (v := ?v_8) (listed' := #[true, true, true, true, true, true, true, true, false, false, false, false, false, false, false, false, false]) HO ?hi_8 hSel ?hf_8 ?hr_8 hQP (by kernel_rfl) ?hw_8 ?h_8 hS0 ?_
          case hi_8 => (simp only [List.getElem?_toArray, List.getElem?_cons_succ, List.getElem?_cons_zero]; rfl)
          case hf_8 => kernel_rfl
          case hr_8 => kernel_rfl
          case hw_8 => rfl
          case h_8 => (intro W hSw; go_simp; first | done | with_reducible rfl)
          (try simp only [Act.put]); (try simp only [List.setIfInBounds_toArray]); (try simp only [List.set_cons_zero]); (try simp only [List.set_cons_succ])
          refine reg_take (i := 8) (oi := ?o_9) (v := ?v_9) (listed' := #[true, true, true, true, true, true, true, true, true, false, false, false, false, false, false, false, false]) HO ?hi_9 hSel ?hf_9 ?hr_9 hQP (by kernel_rfl) ?hw_9 ?h_9 hS0 ?_
          case hi_9 => (simp only [List.getElem?_toArray, List.getElem?_cons_succ, List.getElem?_cons_zero]; rfl)
          case hf_9 => kernel_rfl
          case hr_9 => kernel_rfl
          case hw_9 => rfl
          case h_9 => (intro W hSw; obtain ⟨s0, s1, s2, s3⟩ := HC.out W hSw; go_simp; first | done | with_reducible rfl)
          (try simp only [Act.put]); (try simp only [List.setIfInBounds_toArray]); (try simp only [List.set_cons_zero]); (try simp only [List.set_cons_succ])
          refine reg_take (i := 9) (oi := ?o_10) (v := ?v_10) (listed' := #[true, true, true, true, true, true, true, true, true, true, false, false, false, false, false, false, false]) HO ?hi_10 hSel ?hf_10 ?hr_10 hQP (by kernel_rfl) ?hw_10 ?h_10 hS0 ?_
          case hi_10 => (simp only [List.getElem?_toArray, List.getElem?_cons_succ, List.getElem?_cons_zero]; rfl)
          case hf_10 => kernel_rfl
          case hr_10 => kernel_rfl
          case hw_10 => rfl
          case h_10 => (intro W hSw; go_simp; first | done | with_reducible rfl)
          (try simp only [Act.put]); (try simp only [List.setIfInBounds_toArray]); (try simp only [List.set_cons_zero]); (try simp only [List.set_cons_succ])
          refine reg_take (i := 10) (oi := ?o_11) (v := ?v_11) (listed' := #[true, true, true, true, true, true, true, true, true, true, true, false, false, false, false, false, false]) HO ?hi_11 hSel ?hf_11 ?hr_11 hQP (by kernel_rfl) ?hw_11 ?h_11 hS0 ?_
          case hi_11 => (simp only [List.getElem?_toArray, List.getElem?_cons_succ, List.getElem?_cons_zero]; rfl)
          case hf_11 => kernel_rfl
          case hr_11 => kernel_rfl
          case hw_11 => rfl
          case h_11 => (intro W hSw; go_simp; first | done | with_reducible rfl)
          (try simp only [Act.put]); (try simp only [List.setIfInBounds_toArray]); (try simp only [List.set_cons_zero]); (try simp only [List.set_cons_succ])
          refine reg_take (i := 11) (oi := ?o_12) (v := ?v_12) (listed' := #[true, true, true, true, true, true, true, true, true, true, true, true, false, false, false, false, false]) HO ?hi_12 hSel ?hf_12 ?hr_12 hQP (by kernel_rfl) ?hw_12 ?h_12 hS0 ?_
          case hi_12 => (simp only [List.getElem?_toArray, List.getElem?_cons_succ, List.getElem?_cons_zero]; rfl)
          case hf_12 => kernel_rfl
          case hr_12 => kernel_rfl
          case hw_12 => rfl
          case h_12 => (intro W hSw; go_simp; first | done | with_reducible rfl)
          (try simp only [Act.put]); (try simp only [List.setIfInBounds_toArray]); (try simp only [List.set_cons_zero]); (try simp only [List.set_cons_succ])
          refine reg_take (i := 12) (oi := ?o_13) (v := ?v_13) (listed' := #[true, true, true, true, true, true, true, true, true, true, true, true, true, false, false, false, false]) HO ?hi_13 hSel ?hf_13 ?hr_13 hQP (by kernel_rfl) ?hw_13 ?h_13 hS0 ?_
          case hi_13 => (simp only [List.getElem?_toArray, List.getElem?_cons_succ, List.getElem?_cons_zero]; rfl)
          case hf_13 => kernel_rfl
          case hr_13 => kernel_rfl
          case hw_13 => rfl
          case h_13 => (intro W hSw; go_simp; first | done | with_reducible rfl)
          (try simp only [Act.put]); (try simp only [List.setIfInBounds_toArray]); (try simp only [List.set_cons_zero]); (try simp only [List.set_cons_succ])
          refine reg_take (i := 13) (oi := ?o_14) (v := ?v_14) (listed' := #[true, true, true, true, true, true, true, true, true, true, true, true, true, true, false, false, false]) HO ?hi_14 hSel ?hf_14 ?hr_14 hQP (by kernel_rfl) ?hw_14 ?h_14 hS0 ?_
          case hi_14 => (simp only [List.getElem?_toArray, List.getElem?_cons_succ, List.getElem?_cons_zero]; rfl)
          case hf_14 => kernel_rfl
          case hr_14 => kernel_rfl
          case hw_14 => rfl
          case h_14 => (intro W hSw; obtain ⟨s0, s1, s2, s3⟩ := HC.out W hSw; go_simp; first | done | with_reducible rfl)
          (try simp only [Act.put]); (try simp only [List.setIfInBounds_toArray]); (try simp only [List.set_cons_zero]); (try simp only [List.set_cons_succ])
          refine reg_one (i := 14) (o := ?o_15) (listed' := #[true, true, true, true, true, true, true, true, true, true, true, true, true, true, true, false, false]) HO ?hi_15 ?hr_15 (by kernel_rfl) ?hw_15 (fun K hK => ?_)
          case hi_15 => (simp only [List.getElem?_toArray, List.getElem?_cons_succ, List.getElem?_cons_zero]; rfl)
          case hr_15 => kernel_rfl
          case hw_15 => rfl
          go_simp
          refine (cmp_any aq ap zq zp hq1 hp1 _ hq2 hp2).mono ?_
          rintro e x1 ⟨rfl, hF1⟩
          have hS1 : RowO 61 base x1 (.slice (some ⟨g, 0, none⟩) n c) m' := hS0.fresh hF1
          refine hK.out _ _ hS1 (fun _ => ?_)
          have hF01 : Fresh wr x1 := ((Kept.refl wr _).drew).trans hF1 (fun _ _ h => h)
          clear hK K hS0 hF1
          by_cases hlt2 : aq < ap
          · have hd1 : decide ((aq : Int) - (ap : Int) < 0) = true := by simp; omega
            have hd2 : (aq : Int) < (ap : Int) := by omega
            refine reg_take (i := 15) (oi := ?o_16) (v := ?v_16) (listed' := #[true, true, true, true, true, true, true, true, true, true, true, true, true, true, true, true, false]) HO ?hi_16 hSel ?hf_16 ?hr_16 hQP (by kernel_rfl) ?hw_16 ?h_16 hS1 ?_
            case hi_16 => (simp only [List.getElem?_toArray, List.getElem?_cons_succ, List.getElem?_cons_zero]; rfl)
            case hf_16 => kernel_rfl
            case hr_16 => kernel_rfl
            case hw_16 => rfl
            case h_16 => (intro W hSw; go_simp; first | done | with_reducible rfl)
            (try simp only [Act.put]); (try simp only [List.setIfInBounds_toArray]); (try simp only [List.set_cons_zero]); (try simp only [List.set_cons_succ])
            refine reg_take (i := 16) (oi := ?o_17) (v := ?v_17) (listed' := #[true, true, true, true, true, true, true, true, true, true, true, true, true, true, true, true, true]) HO ?hi_17 hSel ?hf_17 ?hr_17 hQP (by kernel_rfl) ?hw_17 ?h_17 hS1 ?_
            case hi_17 => (simp only [List.getElem?_toArray, List.getElem?_cons_succ, List.getElem?_cons_zero]; rfl)
            case hf_17 => kernel_rfl
            case hr_17 => kernel_rfl
            case hw_17 => rfl
            case h_17 => (intro W hSw; go_simp; first | done | with_reducible rfl)
            (try simp only [Act.put]); (try simp only [List.setIfInBounds_toArray]); (try simp only [List.set_cons_zero]); (try simp only [List.set_cons_succ])
            refine reg_done HO HQ (by kernel_rfl) ?_
            have HR2 := Go.Lib.hid hS1
            have HK2 := Go.Lib.hid ((HK'.out.fresh hF01))
            have HD2 := Go.Lib.hid (HNX.out hlt2)
            clear HO HQ hQP hSel hS1 hF01 hd1 hd2
            obtain ⟨s0, s1, s2, s3⟩ := HC.out x1 HR2.out
            have f0 := fun i => HR2.out.frozenAt HML'.out i
            go_upto_region 6 with (fail)
            refine reg_open (S := fun _ => True) 18 #[false, false, false, false, false, false, false, false, false, false, false, false, false, false, false, false, false, false] (by kernel_rfl) (by kernel_rfl) (by kernel_rfl) (by intro c a d v w h; cases d <;> exact h) (by kernel_rfl) (fun OPS QQ HO HQ hQP hSel => ?_)
            have hF3 : Fresh x1 x1.drew := (Kept.refl x1 _).drew
            have t0 : x1.drew.cell? ⟨g, q * 2, none⟩ = some (.int .i64 (aq : Int)) := s0
            have t1 : x1.drew.cell? ⟨g, q * 2 + 1, none⟩ = some zq := s1
            have t2 : x1.drew.cell? ⟨g, (q - 1) * 2, none⟩ = some (.int .i64 (ap : Int)) := s2
            have t3 : x1.drew.cell? ⟨g, (q - 1) * 2 + 1, none⟩ = some zp := s3
            have f1 : ∀ i, x1.drew.frozen? ⟨g, i, none⟩ = false := f0
            have HR3 := Go.Lib.hid (HR2.out.fresh hF3)
            have HK3 := Go.Lib.hid (HK2.out.fresh hF3)
            clear s0 s1 s2 s3 f0 hF3 HR2 HK2
            generalize x1.drew = x2 at *
            refine reg_take (i := 0) (oi := ?o_18) (v := ?v_18) (listed' := #[true, false, false, false, false, false, false, false, false, false, false, false, false, false, false, false, false, false]) HO ?hi_18 hSel ?hf_18 ?hr_18 hQP (by kernel_rfl) ?hw_18 ?h_18 trivial ?_
            case hi_18 => (simp only [List.getElem?_toArray, List.getElem?_cons_zero]; rfl)
            case hf_18 => kernel_rfl
            case hr_18 => kernel_rfl
            case hw_18 => rfl
            case h_18 => (intro W hSw; go_simp; first | done | with_reducible rfl)
            (try simp only [Act.put]); (try simp only [List.setIfInBounds_toArray]); (try simp only [List.set_cons_zero]); (try simp only [List.set_cons_succ])
            refine reg_take (i := 1) (oi := ?o_19) (v := ?v_19) (listed' := #[true, true, false, false, false, false, false, false, false, false, false, false, false, false, false, false, false, false]) HO ?hi_19 hSel ?hf_19 ?hr_19 hQP (by kernel_rfl) ?hw_19 ?h_19 trivial ?_
            case hi_19 => (simp only [List.getElem?_toArray, List.getElem?_cons_succ, List.getElem?_cons_zero]; rfl)
            case hf_19 => kernel_rfl
            case hr_19 => kernel_rfl
            case hw_19 => rfl
            case h_19 => (intro W hSw; go_simp; first | done | with_reducible rfl)
            (try simp only [Act.put]); (try simp only [List.setIfInBounds_toArray]); (try simp only [List.set_cons_zero]); (try simp only [List.set_cons_succ])
            refine reg_take (i := 5) (oi := ?o_20) (v := ?v_20) (listed' := #[true, true, false, false, false, true, false, false, false, false, false, false, false, false, false, false, false, false]) HO ?hi_20 hSel ?hf_20 ?hr_20 hQP (by kernel_rfl) ?hw_20 ?h_20 trivial ?_
            case hi_20 => (simp only [List.getElem?_toArray, List.getElem?_cons_succ, List.getElem?_cons_zero]; rfl)
            case hf_20 => kernel_rfl
            case hr_20 => kernel_rfl
            case hw_20 => rfl
            case h_20 => (intro W hSw; go_simp; first | done | with_reducible rfl)
            (try simp only [Act.put]); (try simp only [List.setIfInBounds_toArray]); (try simp only [List.set_cons_zero]); (try simp only [List.set_cons_succ])
            refine reg_take (i := 6) (oi := ?o_21) (v := ?v_21) (listed' := #[true, true, false, false, false, true, true, false, false, false, false, false, false, false, false, false, false, false]) HO ?hi_21 hSel ?hf_21 ?hr_21 hQP (by kernel_rfl) ?hw_21 ?h_21 trivial ?_
            case hi_21 => (simp only [List.getElem?_toArray, List.getElem?_cons_succ, List.getElem?_cons_zero]; rfl)
            case hf_21 => kernel_rfl
            case hr_21 => kernel_rfl
            case hw_21 => rfl
            case h_21 => (intro W hSw; go_simp; first | done | with_reducible rfl)
            (try simp only [Act.put]); (try simp only [List.setIfInBounds_toArray]); (try simp only [List.set_cons_zero]); (try simp only [List.set_cons_succ])
            refine reg_take (i := 7) (oi := ?o_22) (v := ?v_22) (listed' := #[true, true, false, false, false, true, true, true, false, false, false, false, false, false, false, false, false, false]) HO ?hi_22 hSel ?hf_22 ?hr_22 hQP (by kernel_rfl) ?hw_22 ?h_22 trivial ?_
            case hi_22 => (simp only [List.getElem?_toArray, List.getElem?_cons_succ, List.getElem?_cons_zero]; rfl)
            case hf_22 => kernel_rfl
            case hr_22 => kernel_rfl
            case hw_22 => rfl
            case h_22 => (intro W hSw; go_simp; first | done | with_reducible rfl)
            (try simp only [Act.put]); (try simp only [List.setIfInBounds_toArray]); (try simp only [List.set_cons_zero]); (try simp only [List.set_cons_succ])
            refine reg_take (i := 8) (oi := ?o_23) (v := ?v_23) (listed' := #[true, true, false, false, false, true, true, true, true, false, false, false, false, false, false, false, false, false]) HO ?hi_23 hSel ?hf_23 ?hr_23 hQP (by kernel_rfl) ?hw_23 ?h_23 trivial ?_
            case hi_23 => (simp only [List.getElem?_toArray, List.getElem?_cons_succ, List.getElem?_cons_zero]; rfl)
            case hf_23 => kernel_rfl
            case hr_23 => kernel_rfl
            case hw_23 => rfl
            case h_23 => (intro W hSw; go_simp; first | done | with_reducible rfl)
            (try simp only [Act.put]); (try simp only [List.setIfInBounds_toArray]); (try simp only [List.set_cons_zero]); (try simp only [List.set_cons_succ])
            refine reg_take (i := 10) (oi := ?o_24) (v := ?v_24) (listed' := #[true, true, false, false, false, true, true, true, true, false, true, false, false, false, false, false, false, false]) HO ?hi_24 hSel ?hf_24 ?hr_24 hQP (by kernel_rfl) ?hw_24 ?h_24 trivial ?_
            case hi_24 => (simp only [List.getElem?_toArray, List.getElem?_cons_succ, List.getElem?_cons_zero]; rfl)
            case hf_24 => kernel_rfl
            case hr_24 => kernel_rfl
            case hw_24 => rfl
            case h_24 => (intro W hSw; go_simp; first | done | with_reducible rfl)
            (try simp only [Act.put]); (try simp only [List.setIfInBounds_toArray]); (try simp only [List.set_cons_zero]); (try simp only [List.set_cons_succ])
            refine reg_take (i := 11) (oi := ?o_25) (v := ?v_25) (listed' := #[true, true, false, false, false, true, true, true, true, false, true, true, false, false, false, false, false, false]) HO ?hi_25 hSel ?hf_25 ?hr_25 hQP (by kernel_rfl) ?hw_25 ?h_25 trivial ?_
            case hi_25 => (simp only [List.getElem?_toArray, List.getElem?_cons_succ, List.getElem?_cons_zero]; rfl)
            case hf_25 => kernel_rfl
            case hr_25 => kernel_rfl
            case hw_25 => rfl
            case h_25 => (intro W hSw; go_simp; first | done | with_reducible rfl)
            (try simp only [Act.put]); (try simp only [List.setIfInBounds_toArray]); (try simp only [List.set_cons_zero]); (try simp only [List.set_cons_succ])
            refine reg_take (i := 12) (oi := ?o_26) (v := ?v_26) (listed' := #[true, true, false, false, false, true, true, true, true, false, true, true, true, false, false, false, false, false]) HO ?hi_26 hSel ?hf_26 ?hr_26 hQP (by kernel_rfl) ?hw_26 ?h_26 trivial ?_
            case hi_26 => (simp only [List.getElem?_toArray, List.getElem?_cons_succ, List.getElem?_cons_zero]; rfl)
            case hf_26 => kernel_rfl
            case hr_26 => kernel_rfl
            case hw_26 => rfl
            case h_26 => (intro W hSw; go_simp; first | done | with_reducible rfl)
            (try simp only [Act.put]); (try simp only [List.setIfInBounds_toArray]); (try simp only [List.set_cons_zero]); (try simp only [List.set_cons_succ])
            refine reg_take (i := 2) (oi := ?o_27) (v := ?v_27) (listed' := #[true, true, true, false, false, true, true, true, true, false, true, true, true, false, false, false, false, false]) HO ?hi_27 hSel ?hf_27 ?hr_27 hQP (by kernel_rfl) ?hw_27 ?h_27 trivial ?_
            case hi_27 => (simp only [List.getElem?_toArray, List.getElem?_cons_succ, List.getElem?_cons_zero]; rfl)
            case hf_27 => kernel_rfl
            case hr_27 => kernel_rfl
            case hw_27 => rfl
            case h_27 => (intro W hSw; go_simp; first | done | with_reducible rfl)
            (try simp only [Act.put]); (try simp only [List.setIfInBounds_toArray]); (try simp only [List.set_cons_zero]); (try simp only [List.set_cons_succ])
            refine reg_take (i := 3) (oi := ?o_28) (v := ?v_28) (listed' := #[true, true, true, true, false, true, true, true, true, false, true, true, true, false, false, false, false, false]) HO ?hi_28 hSel ?hf_28 ?hr_28 hQP (by kernel_rfl) ?hw_28 ?h_28 trivial ?_
            case hi_28 => (simp only [List.getElem?_toArray, List.getElem?_cons_succ, List.getElem?_cons_zero]; rfl)
            case hf_28 => kernel_rfl
            case hr_28 => kernel_rfl
            case hw_28 => rfl
            case h_28 => (intro W hSw; go_simp; first | done | with_reducible rfl)
            (try simp only [Act.put]); (try simp only [List.setIfInBounds_toArray]); (try simp only [List.set_cons_zero]); (try simp only [List.set_cons_succ])
            refine reg_take (i := 4) (oi := ?o_29) (v := ?v_29) (listed' := #[true, true, true, true, true, true, true, true, true, false, true, true, true, false, false, false, false, false]) HO ?hi_29 hSel ?hf_29 ?hr_29 hQP (by kernel_rfl) ?hw_29 ?h_29 trivial ?_
            case hi_29 => (simp only [List.getElem?_toArray, List.getElem?_cons_succ, List.getElem?_cons_zero]; rfl)
            case hf_29 => kernel_rfl
            case hr_29 => kernel_rfl
            case hw_29 => rfl
            case h_29 => (intro W hSw; go_simp; first | done | with_reducible rfl)
            (try simp only [Act.put]); (try simp only [List.setIfInBounds_toArray]); (try simp only [List.set_cons_zero]); (try simp only [List.set_cons_succ])
            refine reg_two (i := 9) (j := 13) (oi := ?o_30) (oj := ?o_31) (li := #[true, true, true, true, true, true, true, true, true, true, true, true, true, false, false, false, false, false]) (lj := #[true, true, true, true, true, true, true, true, true, false, true, true, true, true, false, false, false, false]) HO ?hi_30 ?hi_31 ?hr_30 (by kernel_rfl) (by kernel_rfl) ?hw_30 ?hw_31 (fun K hK => ?way1_30) (fun K hK => ?way2_30)
            case hi_30 => (simp only [List.getElem?_toArray, List.getElem?_cons_succ, List.getElem?_cons_zero]; rfl)
            case hi_31 => (simp only [List.getElem?_toArray, List.getElem?_cons_succ, List.getElem?_cons_zero]; rfl)
            case hr_30 => kernel_rfl
            case hw_30 => rfl
            case hw_31 => rfl
            case way1_30 =>
              go_simp
              refine hK.out _ _ trivial (fun _ => ?_)
              clear hK K
              refine reg_one (i := 13) (o := ?o_32) (listed' := #[true, true, true, true, true, true, true, true, true, true, true, true, true, true, false, false, false, false]) HO ?hi_32 ?hr_32 (by kernel_rfl) ?hw_32 (fun K hK => ?_)
              case hi_32 => (simp only [List.getElem?_toArray, List.getElem?_cons_succ, List.getElem?_cons_zero]; rfl)
              case hr_32 => kernel_rfl
              case hw_32 => rfl
              go_simp
              refine hK.out _ _ trivial (fun _ => ?_)
              clear hK K
              refine reg_take (i := 14) (oi := ?o_33) (v := ?v_33) (listed' := #[true, true, true, true, true, true, true, true, true, true, true, true, true, true, true, false, false, false]) HO ?hi_33 hSel ?hf_33 ?hr_33 hQP (by kernel_rfl) ?hw_33 ?h_33 trivial ?_
              case hi_33 => (simp only [List.getElem?_toArray, List.getElem?_cons_succ, List.getElem?_cons_zero]; rfl)
              case hf_33 => kernel_rfl
              case hr_33 => kernel_rfl
              case hw_33 => rfl
              case h_33 => (intro W hSw; go_simp; first | done | with_reducible rfl)
              (try simp only [Act.put]); (try simp only [List.setIfInBounds_toArray]); (try simp only [List.set_cons_zero]); (try simp only [List.set_cons_succ])
              refine reg_one (i := 15) (o := ?o_34) (listed' := #[true, true, true, true, true, true, true, true, true, true, true, true, true, true, true, true, false, false]) HO ?hi_34 ?hr_34 (by kernel_rfl) ?hw_34 (fun K hK => ?_)
              case hi_34 => (simp only [List.getElem?_toArray, List.getElem?_cons_succ, List.getElem?_cons_zero]; rfl)
              case hr_34 => kernel_rfl
              case hw_34 => rfl
              go_simp
              have hR4 := HR3.out.stored HML'.out q (ap, zp)
              have hl4 : (m'.set q (ap, zp)).length = n := by rw [List.length_set]; exact HML'.out
              have hK4 := (HK3.out.setCell (p := ⟨g, q * 2, none⟩) (.inl rfl) (.int .i64 (ap : Int))).setCell (p := ⟨g, q * 2 + 1, none⟩) (.inl rfl) zp
              refine hK.out _ _ trivial (fun _ => ?_)
              clear hK K t0 t1 t2 t3 f1
              simp only at hR4
              generalize (x2.setCell ⟨g, q * 2, none⟩ (.int .i64 (ap : Int))).setCell ⟨g, q * 2 + 1, none⟩ zp = x4 at *
              have t2 := hR4.cell0 hl4 (q - 1) (by rw [hl4]; have := HML'.out; omega)
              have t3 := hR4.cell1 hl4 (q - 1) (by rw [hl4]; have := HML'.out; omega)
              have f1 := fun i => hR4.frozenAt hl4 i
              refine reg_take (i := 16) (oi := ?o_35) (v := ?v_35) (listed' := #[true, true, true, true, true, true, true, true, true, true, true, true, true, true, true, true, true, false]) HO ?hi_35 hSel ?hf_35 ?hr_35 hQP (by kernel_rfl) ?hw_35 ?h_35 trivial ?_
              case hi_35 => (simp only [List.getElem?_toArray, List.getElem?_cons_succ, List.getElem?_cons_zero]; rfl)
              case hf_35 => kernel_rfl
              case hr_35 => kernel_rfl
              case hw_35 => rfl
              case h_35 => (intro W hSw; go_simp; first | done | with_reducible rfl)
              (try simp only [Act.put]); (try simp only [List.setIfInBounds_toArray]); (try simp only [List.set_cons_zero]); (try simp only [List.set_cons_succ])
              refine reg_one (i := 17) (o := ?o_36) (listed' := #[true, true, true, true, true, true, true, true, true, true, true, true, true, true, true, true, true, true]) HO ?hi_36 ?hr_36 (by kernel_rfl) ?hw_36 (fun K hK => ?_)
              case hi_36 => (simp only [List.getElem?_toArray, List.getElem?_cons_succ, List.getElem?_cons_zero]; rfl)
              case hr_36 => kernel_rfl
              case hw_36 => rfl
              go_simp
              have hR5 := hR4.stored hl4 (q - 1) (aq, zq)
              have hK5 := (hK4.setCell (p := ⟨g, (q - 1) * 2, none⟩) (.inl rfl) (.int .i64 (aq : Int))).setCell (p := ⟨g, (q - 1) * 2 + 1, none⟩) (.inl rfl) zq
              refine hK.out _ _ trivial (fun _ => ?_)
              clear hK K t2 t3 f1
              simp only at hR5
              rw [← HSW.out] at hR5
              generalize (x4.setCell ⟨g, (q - 1) * 2, none⟩ (.int .i64 (aq : Int))).setCell ⟨g, (q - 1) * 2 + 1, none⟩ zq = x5 at *
              refine reg_done HO HQ (by kernel_rfl) ?_
              have HR5 := Go.Lib.hid hR5
              have HK5 := Go.Lib.hid hK5
              clear HO HQ hQP hSel hR5 hK5 hR4 hK4 hl4
              go_wp2_with (fail)
              go_roundw
              case rel => exact ⟨q - 1, _, by congr 1; omega, HPN.out, HD2.out, HR5.out, HK5.out⟩
              case measure => simp [intOf]; omega
            case way2_30 =>
              go_simp
              refine hK.out _ _ trivial (fun _ => ?_)
              clear hK K
              refine reg_one (i := 9) (o := ?o_37) (listed' := #[true, true, true, true, true, true, true, true, true, true, true, true, true, true, false, false, false, false]) HO ?hi_37 ?hr_37 (by kernel_rfl) ?hw_37 (fun K hK => ?_)
              case hi_37 => (simp only [List.getElem?_toArray, List.getElem?_cons_succ, List.getElem?_cons_zero]; rfl)
              case hr_37 => kernel_rfl
              case hw_37 => rfl
              go_simp
              refine hK.out _ _ trivial (fun _ => ?_)
              clear hK K
              refine reg_take (i := 14) (oi := ?o_38) (v := ?v_38) (listed' := #[true, true, true, true, true, true, true, true, true, true, true, true, true, true, true, false, false, false]) HO ?hi_38 hSel ?hf_38 ?hr_38 hQP (by kernel_rfl) ?hw_38 ?h_38 trivial ?_
              case hi_38 => (simp only [List.getElem?_toArray, List.getElem?_cons_succ, List.getElem?_cons_zero]; rfl)
              case hf_38 => kernel_rfl
              case hr_38 => kernel_rfl
              case hw_38 => rfl
              case h_38 => (intro W hSw; go_simp; first | done | with_reducible rfl)
              (try simp only [Act.put]); (try simp only [List.setIfInBounds_toArray]); (try simp only [List.set_cons_zero]); (try simp only [List.set_cons_succ])
              refine reg_one (i := 15) (o := ?o_39) (listed' := #[true, true, true, true, true, true, true, true, true, true, true, true, true, true, true, true, false, false]) HO ?hi_39 ?hr_39 (by kernel_rfl) ?hw_39 (fun K hK => ?_)
              case hi_39 => (simp only [List.getElem?_toArray, List.getElem?_cons_succ, List.getElem?_cons_zero]; rfl)
              case hr_39 => kernel_rfl
              case hw_39 => rfl
              go_simp
              have hR4 := HR3.out.stored HML'.out q (ap, zp)
              have hl4 : (m'.set q (ap, zp)).length = n := by rw [List.length_set]; exact HML'.out
              have hK4 := (HK3.out.setCell (p := ⟨g, q * 2, none⟩) (.inl rfl) (.int .i64 (ap : Int))).setCell (p := ⟨g, q * 2 + 1, none⟩) (.inl rfl) zp
              refine hK.out _ _ trivial (fun _ => ?_)
              clear hK K t0 t1 t2 t3 f1
              simp only at hR4
              generalize (x2.setCell ⟨g, q * 2, none⟩ (.int .i64 (ap : Int))).setCell ⟨g, q * 2 + 1, none⟩ zp = x4 at *
              have t2 := hR4.cell0 hl4 (q - 1) (by rw [hl4]; have := HML'.out; omega)
              have t3 := hR4.cell1 hl4 (q - 1) (by rw [hl4]; have := HML'.out; omega)
              have f1 := fun i => hR4.frozenAt hl4 i
              refine reg_take (i := 16) (oi := ?o_40) (v := ?v_40) (listed' := #[true, true, true, true, true, true, true, true, true, true, true, true, true, true, true, true, true, false]) HO ?hi_40 hSel ?hf_40 ?hr_40 hQP (by kernel_rfl) ?hw_40 ?h_40 trivial ?_
              case hi_40 => (simp only [List.getElem?_toArray, List.getElem?_cons_succ, List.getElem?_cons_zero]; rfl)
              case hf_40 => kernel_rfl
              case hr_40 => kernel_rfl
              case hw_40 => rfl
              case h_40 => (intro W hSw; go_simp; first | done | with_reducible rfl)
              (try simp only [Act.put]); (try simp only [List.setIfInBounds_toArray]); (try simp only [List.set_cons_zero]); (try simp only [List.set_cons_succ])
              refine reg_one (i := 17) (o := ?o_41) (listed' := #[true, true, true, true, true, true, true, true, true, true, true, true, true, true, true, true, true, true]) HO ?hi_41 ?hr_41 (by kernel_rfl) ?hw_41 (fun K hK => ?_)
              case hi_41 => (simp only [List.getElem?_toArray, List.getElem?_cons_succ, List.getElem?_cons_zero]; rfl)
              case hr_41 => kernel_rfl
              case hw_41 => rfl
              go_simp
              have hR5 := hR4.stored hl4 (q - 1) (aq, zq)
              have hK5 := (hK4.setCell (p := ⟨g, (q - 1) * 2, none⟩) (.inl rfl) (.int .i64 (aq : Int))).setCell (p := ⟨g, (q - 1) * 2 + 1, none⟩) (.inl rfl) zq
              refine hK.out _ _ trivial (fun _ => ?_)
              clear hK K t2 t3 f1
              simp only at hR5
              rw [← HSW.out] at hR5
              generalize (x4.setCell ⟨g, (q - 1) * 2, none⟩ (.int .i64 (aq : Int))).setCell ⟨g, (q - 1) * 2 + 1, none⟩ zq = x5 at *
              refine reg_done HO HQ (by kernel_rfl) ?_
              have HR5 := Go.Lib.hid hR5
              have HK5 := Go.Lib.hid hK5
              clear HO HQ hQP hSel hR5 hK5 hR4 hK4 hl4
              go_wp2_with (fail)
              go_roundw
              case rel => exact ⟨q - 1, _, by congr 1; omega, HPN.out, HD2.out, HR5.out, HK5.out⟩
              case measure => simp [intOf]; omega
          · have hd1 : decide ((aq : Int) - (ap : Int) < 0) = false := by simp; omega
            have hd2 : ¬ (aq : Int) < (ap : Int) := by omega
            have hd3 : (ap : Int) ≤ (aq : Int) := by omega
            refine reg_take (i := 15) (oi := ?o_42) (v := ?v_42) (listed' := #[true, true, true, true, true, true, true, true, true, true, true, true, true, true, true, true, false]) HO ?hi_42 hSel ?hf_42 ?hr_42 hQP (by kernel_rfl) ?hw_42 ?h_42 hS1 ?_
            case hi_42 => (simp only [List.getElem?_toArray, List.getElem?_cons_succ, List.getElem?_cons_zero]; rfl)
            case hf_42 => kernel_rfl
            case hr_42 => kernel_rfl
            case hw_42 => rfl
            case h_42 => (intro W hSw; go_simp; first | done | with_reducible rfl)
            (try simp only [Act.put]); (try simp only [List.setIfInBounds_toArray]); (try simp only [List.set_cons_zero]); (try simp only [List.set_cons_succ])
            refine reg_take (i := 16) (oi := ?o_43) (v := ?v_43) (listed' := #[true, true, true, true, true, true, true, true, true, true, true, true, true, true, true, true, true]) HO ?hi_43 hSel ?hf_43 ?hr_43 hQP (by kernel_rfl) ?hw_43 ?h_43 hS1 ?_
            case hi_43 => (simp only [List.getElem?_toArray, List.getElem?_cons_succ, List.getElem?_cons_zero]; rfl)
            case hf_43 => kernel_rfl
            case hr_43 => kernel_rfl
            case hw_43 => rfl
            case h_43 => (intro W hSw; go_simp; first | done | with_reducible rfl)
            (try simp only [Act.put]); (try simp only [List.setIfInBounds_toArray]); (try simp only [List.set_cons_zero]); (try simp only [List.set_cons_succ])
            refine reg_done HO HQ (by kernel_rfl) ?_
            have HR2 := Go.Lib.hid hS1
            have HK2 := Go.Lib.hid (HK'.out.fresh hF01)
            have HU2 := Go.Lib.hid (HDO.out hlt2)
            clear HO HQ hQP hSel hS1 hF01 hd1 hd2
            go_wp2_with (fail)
            exact ⟨⟨k + 1, m', by omega, by omega, by go_num, HP'.out, HU2.out, HR2.out, HK2.out⟩, by simp [intOf]; omega⟩
    · obtain rfl : k = n := by omega
      go_wp2
      go_end0
      exact ⟨rfl, m, HP.out, by rw [← HML.out] at HU; exact HU.out, HRR.out, HK.out⟩
end

section
open Go.RowKit

set_option maxRecDepth 100000 in
set_option maxHeartbeats 2000000 in
theorem pdqc_any (base g n c : Nat) (lim : Value) (l : List (Nat × Value)) (w : World) (h : RowO 61 base w (.slice (some ⟨g, 0, none⟩) n c) l) (hln : l.length = n) (hd : (l.map Prod.fst).Nodup) (h1 : 1 ≤ n) (hn : n ≤ 12) (h256 : ∀ x ∈ l, x.1 < 256 ∧ x.2.oneCell' = true) :
    Calls Try.prog 98 #[.slice (some ⟨g, 0, none⟩) n c, .int .i64 0, .int .i64 n, lim, .func (.func 70) #[] #[]] w fun e w' => e = .returned (.tuple #[]) ∧ ∃ l', l'.Perm l ∧ Upto Prod.fst l' l'.length ∧ RowO 61 base w' (.slice (some ⟨g, 0, none⟩) n c) l' ∧ Kept w w' (fun k => k = g) := by
  have HR := Go.Lib.hid h
  have HD := Go.Lib.hid hd
  have HL := Go.Lib.hid hln
  have HX := Go.Lib.hid h256
  clear h hd hln h256
  have i1 : (n : Int) ≤ 12 := by omega
  go_enter Try.func98, Try.ntmps98
  go_wp2_with (fail)
  go_loopw [1, 2] (fun a b wr => a = .int .i64 0 ∧ b = .int .i64 n ∧ wr = w) (fun _ _ _ => 0)
  case atStart => exact ⟨rfl, rfl, rfl⟩
  case round =>
    obtain ⟨rfl, rfl, rfl⟩ := hrel
    go_wp2_with (fail)
    refine (isortc_any base g n c l _ HR.out HL.out HD.out h1 (by omega) HX.out).mono ?_
    rintro e w1 ⟨rfl, l', p1, p2, p3, p4⟩
    have H1 := Go.Lib.hid p1
    have H2 := Go.Lib.hid p2
    have H3 := Go.Lib.hid p3
    have H4 := Go.Lib.hid p4
    clear p1 p2 p3 p4
    go_wp2
    refine bodyPost_ret (v := .tuple #[]) (by simp [results, Try.results98, go_sem]) rfl ⟨rfl, l', H1.out, H2.out, H3.out, H4.out⟩

set_option maxRecDepth 100000 in
set_option maxHeartbeats 2000000 in
theorem sortFunc_any (base g n c : Nat) (l : List (Nat × Value)) (w : World) (h : RowO 61 base w (.slice (some ⟨g, 0, none⟩) n c) l) (hln : l.length = n) (hd : (l.map Prod.fst).Nodup) (h1 : 1 ≤ n) (hn : n ≤ 12) (h256 : ∀ x ∈ l, x.1 < 256 ∧ x.2.oneCell' = true) :
    Calls Try.prog 69 #[.slice (some ⟨g, 0, none⟩) n c, .func (.func 70) #[] #[]] w fun e w' => e = .returned (.tuple #[]) ∧ ∃ l', l'.Perm l ∧ Upto Prod.fst l' l'.length ∧ RowO 61 base w' (.slice (some ⟨g, 0, none⟩) n c) l' ∧ Kept w w' (fun k => k = g) := by
  have HR := Go.Lib.hid h
  have HD := Go.Lib.hid hd
  have HL := Go.Lib.hid hln
  have HX := Go.Lib.hid h256
  clear h hd hln h256
  have i1 : (n : Int) ≤ 12 := by omega
  go_enter Try.func69, Try.ntmps69
  go_wp2_with (fail)
  refine (bitsLen_any n hn _).mono ?_
  rintro e w1 ⟨⟨v, rfl⟩, hw⟩
  replace hw := hw.symm
  subst hw
  go_wp2_with (fail)
  refine (pdqc_any base g n c _ l _ HR.out HL.out HD.out h1 hn HX.out).mono ?_
  rintro e w1 ⟨rfl, l', p1, p2, p3, p4⟩
  have H1 := Go.Lib.hid p1
  have H2 := Go.Lib.hid p2
  have H3 := Go.Lib.hid p3
  have H4 := Go.Lib.hid p4
  clear p1 p2 p3 p4
  go_wp2
  go_end0
  exact ⟨rfl, l', H1.out, H2.out, H3.out, H4.out⟩
end
end Go.Proofs.Ytahcaoenddapoaa
