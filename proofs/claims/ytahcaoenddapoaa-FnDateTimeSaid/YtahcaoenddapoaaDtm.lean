/- Package time: Sub, Add, Equal, Date at the elder types' first day. -/
import Derived.Test.YtahcaoenddapoaaTm6
import Derived.Deep.DeepCutAuto
namespace Go.Proofs.Ytahcaoenddapoaa
open Go.RowKit

set_option maxRecDepth 100000 in
theorem addSec_any (b n E E' : Nat) (D : Int) (z : Value) (hn : n < 1073741824) (hE : (E : Int) + D = (E' : Int)) (h2 : E' ≤ 1000000000000) (w : World) (hT : T3 w b (.int .u64 (n : Int)) (.int .i64 (E : Int)) z) :
    Calls Try.prog 178 #[.pointer (some ⟨b, 0, none⟩), .int .i64 D] w fun e w' => e = .returned (.tuple #[]) ∧ w' = w.setCell ⟨b, 1, none⟩ (.int .i64 (E' : Int)) := by
  have h := and_top n hn
  obtain ⟨c0, c1, c2, f0, f1, f2⟩ := hT
  have b1 : (E : Int) + D ≤ 1000000000000 := by omega
  have b0 : 0 ≤ (E : Int) + D := by omega
  have hw : IntKind.i64.wrap ((E : Int) + D) = (E' : Int) := by rw [hE]; exact IntWalk.i64_in _ (by omega)
  have HW := Go.Lib.hid hE
  by_cases hD : 0 < D
  · have hgt : (E : Int) < (E : Int) + D := by omega
    clear hE hw
    go_enter Try.func178, Try.ntmps178
    go_wp2
    go_end0
    refine ⟨rfl, ?_⟩
    rw [HW.out]
  · have hgt : ¬ (E : Int) < (E : Int) + D := by omega
    clear hE hw
    go_enter Try.func178, Try.ntmps178
    go_wp2
    go_end0
    refine ⟨rfl, ?_⟩
    rw [HW.out]

/-- A moment of a whole second. -/
@[reducible] def tv0 (E : Nat) (l : Value) : Value := .agg #[.int .u64 0, .int .i64 (E : Int), l]

theorem nsec0_any (b : Nat) (w : World) (c0 : w.cell? ⟨b, 0, none⟩ = some (.int .u64 0)) : Calls Try.prog 154 #[.pointer (some ⟨b, 0, none⟩)] w fun e w' => e = .returned (.int .i32 0) ∧ w' = w := nsec_any b 0 (by decide) w c0
theorem sec0_any (b E : Nat) (w : World) (c0 : w.cell? ⟨b, 0, none⟩ = some (.int .u64 0)) (c1 : w.cell? ⟨b, 1, none⟩ = some (.int .i64 (E : Int))) : Calls Try.prog 160 #[.pointer (some ⟨b, 0, none⟩)] w fun e w' => e = .returned (.int .i64 (E : Int)) ∧ w' = w := sec_any b 0 E (by decide) w c0 c1

set_option maxRecDepth 100000 in
set_option maxHeartbeats 400000 in
theorem Add_any (E E' : Nat) (D X : Int) (hX : X = D * 1000000000) (hD0 : 0 ≤ D) (hD1 : D ≤ 9000000000) (hE : (E : Int) + D = (E' : Int)) (h2 : E' ≤ 1000000000000) (w : World) :
    Calls Try.prog 161 #[tv0 E (.pointer none), .int .i64 X] w fun e w' => e = .returned (tv0 E' (.pointer none)) ∧ Fresh w w' := by
  have hT0 := T3.new w (.int .u64 0) (.int .i64 (E : Int)) (.pointer none) 100
  have hF0 : Fresh w (w.alloc (.cells #[.int .u64 0, .int .i64 (E : Int), .pointer none] 100)) := (Kept.refl w _).alloc _
  have hs0 : (w.alloc (.cells #[.int .u64 0, .int .i64 (E : Int), .pointer none] 100)).heap.size = w.heap.size + 1 := by simp
  have hT1 := T3.new (w.alloc (.cells #[.int .u64 0, .int .i64 (E : Int), .pointer none] 100)) (.int .u64 0) (.int .i64 0) (.pointer none) 100
  have hF1 : Fresh (w.alloc (.cells #[.int .u64 0, .int .i64 (E : Int), .pointer none] 100)) ((w.alloc (.cells #[.int .u64 0, .int .i64 (E : Int), .pointer none] 100)).alloc (.cells #[.int .u64 0, .int .i64 0, .pointer none] 100)) := (Kept.refl _ _).alloc _
  rw [hs0] at hT1
  have hT2 := hT0.fresh hF1
  have hF2 := hF0.fresh hF1
  have q1 : X.tdiv 1000000000 = D := by rw [hX]; exact Int.mul_tdiv_cancel D (by decide)
  have q2 : X.tmod 1000000000 = 0 := by rw [hX]; exact Int.mul_tmod_left _ _
  have q3 : bits .andNot .u64 0 1073741823 = 0 := by decide +kernel
  have q4 : bits .or .u64 0 0 = 0 := by decide +kernel
  have q5 : bits .and .u64 0 9223372036854775808 = 0 := by decide +kernel
  have HE := Go.Lib.hid hE
  clear hE hX
  go_enter Try.func161, Try.ntmps161
  go_upto_region 2 with (fail)
  generalize ((w.alloc (.cells #[.int .u64 0, .int .i64 (E : Int), .pointer none] 100)).alloc (.cells #[.int .u64 0, .int .i64 0, .pointer none] 100)) = W at *
  have hT2' := hT2
  obtain ⟨a0, a1, a2, a3, a4, a5⟩ := hT2'
  go_wp2_with (fail)
  refine (nsec0_any w.heap.size _ a0).mono ?_
  rintro e w1 ⟨rfl, rfl⟩
  have hT3 := hT2.set0 (.int .u64 0)
  go_wp2_with (fail)
  have hF3 : Fresh w (w1.setCell ⟨w.heap.size, 0, none⟩ (.int .u64 0)) := fresh_set hF2 (Nat.le_refl _) _
  have hT4 := hT1.kept ((Kept.refl w1 (fun k => k = w.heap.size)).setCell (p := ⟨w.heap.size, 0, none⟩) (.inl rfl) (.int .u64 0)) (by omega)
  generalize (w1.setCell ⟨w.heap.size, 0, none⟩ (.int .u64 0)) = W2 at *
  clear hT0 hF0 hs0 hT1 hF1 hT2 hF2 a0 a1 a2 a3 a4 a5
  refine (addSec_any w.heap.size 0 E E' D _ (by decide) HE.out h2 _ hT3).mono ?_
  rintro e w3 ⟨rfl, rfl⟩
  have hT5 := hT3.set1 (.int .i64 (E' : Int))
  have hF5 : Fresh w (W2.setCell ⟨w.heap.size, 1, none⟩ (.int .i64 (E' : Int))) := fresh_set hF3 (Nat.le_refl _) _
  have hT6 := hT4.kept ((Kept.refl W2 (fun k => k = w.heap.size)).setCell (p := ⟨w.heap.size, 1, none⟩) (.inl rfl) (.int .i64 (E' : Int))) (by omega)
  generalize (W2.setCell ⟨w.heap.size, 1, none⟩ (.int .i64 (E' : Int))) = W3 at *
  have HT := Go.Lib.hid (hT6.set (.int .u64 0) (.int .i64 (E' : Int)) (.pointer none))
  obtain ⟨a0, a1, a2, a3, a4, a5⟩ := hT5
  obtain ⟨e0, e1, e2, e3, e4, e5⟩ := hT6
  clear hT3 hT4 hF3
  go_wp2
  obtain ⟨r0, r1, r2, _, _, _⟩ := HT.out
  refine bodyPost_ret (v := tv0 E' (.pointer none)) (by simp [results, Try.results161, go_sem, r0, r1, r2]) rfl ⟨rfl, fresh_set (fresh_set (fresh_set hF5 ?_ _) ?_ _) ?_ _⟩ <;> (show w.heap.size ≤ w.heap.size + 1; omega)

set_option maxRecDepth 100000 in
theorem Equal_any (E : Nat) (w : World) : Calls Try.prog 162 #[tv0 E (.pointer none), tv0 E (.pointer none)] w fun e w' => e = .returned (.bool true) ∧ Fresh w w' := by
  have hT0 := T3.new w (.int .u64 0) (.int .i64 (E : Int)) (.pointer none) 100
  have hF0 : Fresh w (w.alloc (.cells #[.int .u64 0, .int .i64 (E : Int), .pointer none] 100)) := (Kept.refl w _).alloc _
  have hs0 : (w.alloc (.cells #[.int .u64 0, .int .i64 (E : Int), .pointer none] 100)).heap.size = w.heap.size + 1 := by simp
  have hT1 := T3.new (w.alloc (.cells #[.int .u64 0, .int .i64 (E : Int), .pointer none] 100)) (.int .u64 0) (.int .i64 (E : Int)) (.pointer none) 100
  have hF1 : Fresh (w.alloc (.cells #[.int .u64 0, .int .i64 (E : Int), .pointer none] 100)) ((w.alloc (.cells #[.int .u64 0, .int .i64 (E : Int), .pointer none] 100)).alloc (.cells #[.int .u64 0, .int .i64 (E : Int), .pointer none] 100)) := (Kept.refl _ _).alloc _
  rw [hs0] at hT1
  obtain ⟨a0, a1, a2, a3, a4, a5⟩ := hT0.fresh hF1
  obtain ⟨b0, b1, b2, b3, b4, b5⟩ := hT1
  have hF2 := hF0.fresh hF1
  have q5 : bits .and .u64 0 9223372036854775808 = 0 := by decide +kernel
  have q6 : bits .and .u64 0 0 = 0 := by decide +kernel
  clear hT0 hF0 hs0 hF1
  go_enter Try.func162, Try.ntmps162
  go_upto_region 1 with (fail)
  generalize ((w.alloc (.cells #[.int .u64 0, .int .i64 (E : Int), .pointer none] 100)).alloc (.cells #[.int .u64 0, .int .i64 (E : Int), .pointer none] 100)) = W at *
  go_wp2_with (fail)
  refine (sec0_any w.heap.size E _ a0 a1).mono ?_
  rintro e w1 ⟨rfl, rfl⟩
  go_wp2_with (fail)
  refine (sec0_any (w.heap.size + 1) E _ b0 b1).mono ?_
  rintro e w1' ⟨rfl, rfl⟩
  go_wp2_with (fail)
  refine (nsec0_any w.heap.size _ a0).mono ?_
  rintro e w2 ⟨rfl, rfl⟩
  go_wp2_with (fail)
  refine (nsec0_any (w.heap.size + 1) _ b0).mono ?_
  rintro e w2' ⟨rfl, rfl⟩
  go_wp2
  go_ret
  exact ⟨rfl, hF2⟩

abbrev TS2 (W : World) (b c : Nat) (x y z x' y' z' : Value) (w' : World) : Prop := w'.cell? ⟨b, 0, none⟩ = some x ∧ w'.cell? ⟨b, 1, none⟩ = some y ∧ w'.cell? ⟨b, 2, none⟩ = some z ∧ w'.cell? ⟨c, 0, none⟩ = some x' ∧ w'.cell? ⟨c, 1, none⟩ = some y' ∧ w'.cell? ⟨c, 2, none⟩ = some z' ∧ Fresh W w'
theorem TS2.drew {W w1 : World} {b c : Nat} {x y z x' y' z' : Value} (h : TS2 W b c x y z x' y' z' w1) : TS2 W b c x y z x' y' z' w1.drew := ⟨h.1, h.2.1, h.2.2.1, h.2.2.2.1, h.2.2.2.2.1, h.2.2.2.2.2.1, h.2.2.2.2.2.2.drew⟩
theorem TS2.same {W w1 : World} {b c : Nat} {x y z x' y' z' : Value} (h : TS2 W b c x y z x' y' z' w1) : TS2 W b c x y z x' y' z' w1 := h
theorem TS2.fresh {W w1 w2 : World} {b c : Nat} {x y z x' y' z' : Value} (h : TS2 W b c x y z x' y' z' w1) (hk : Fresh w1 w2) : TS2 W b c x y z x' y' z' w2 :=
  ⟨hk.held h.1 (fun h => h), hk.held h.2.1 (fun h => h), hk.held h.2.2.1 (fun h => h), hk.held h.2.2.2.1 (fun h => h), hk.held h.2.2.2.2.1 (fun h => h), hk.held h.2.2.2.2.2.1 (fun h => h), h.2.2.2.2.2.2.fresh hk⟩

set_option maxRecDepth 100000 in
set_option maxHeartbeats 400000 in
theorem Sub_any (E E0 : Nat) (D X : Int) (hX : X = D * 1000000000) (hD0 : 0 ≤ D) (hD1 : D ≤ 9000000000) (hE : (E0 : Int) + D = (E : Int)) (h2 : E ≤ 1000000000000) (w : World) :
    Calls Try.prog 122 #[tv0 E (.pointer none), tv0 E0 (.pointer none)] w fun e w' => e = .returned (.int .i64 X) ∧ Fresh w w' := by
  have hT0 := T3.new w (.int .u64 0) (.int .i64 (E : Int)) (.pointer none) 100
  have hF0 : Fresh w (w.alloc (.cells #[.int .u64 0, .int .i64 (E : Int), .pointer none] 100)) := (Kept.refl w _).alloc _
  have hs0 : (w.alloc (.cells #[.int .u64 0, .int .i64 (E : Int), .pointer none] 100)).heap.size = w.heap.size + 1 := by simp
  have hT1 := T3.new (w.alloc (.cells #[.int .u64 0, .int .i64 (E : Int), .pointer none] 100)) (.int .u64 0) (.int .i64 (E0 : Int)) (.pointer none) 100
  have hF1 : Fresh (w.alloc (.cells #[.int .u64 0, .int .i64 (E : Int), .pointer none] 100)) ((w.alloc (.cells #[.int .u64 0, .int .i64 (E : Int), .pointer none] 100)).alloc (.cells #[.int .u64 0, .int .i64 (E0 : Int), .pointer none] 100)) := (Kept.refl _ _).alloc _
  rw [hs0] at hT1
  have hT2 := hT0.fresh hF1
  have hF2 := hF0.fresh hF1
  have hd1 : (E : Int) - (E0 : Int) = D := by omega
  have hd2 : IntKind.i64.wrap ((E : Int) - (E0 : Int)) = D := by rw [hd1]; exact IntWalk.i64_in _ (by omega)
  have hx1 : IntKind.i64.wrap (D * 1000000000) = X := by rw [hX]; exact IntWalk.i64_in _ (by omega)
  have hX0 : 0 ≤ X := by omega
  have hX1 : X ≤ 9000000000000000000 := by omega
  have q5 : bits .and .u64 0 9223372036854775808 = 0 := by decide +kernel
  have q6 : bits .and .u64 0 0 = 0 := by decide +kernel
  have HX := Go.Lib.hid hX
  have HE := Go.Lib.hid hE
  clear hT0 hF0 hs0 hF1 hX hE
  go_enter Try.func122, Try.ntmps122
  go_upto_region 1 with (fail)
  generalize ((w.alloc (.cells #[.int .u64 0, .int .i64 (E : Int), .pointer none] 100)).alloc (.cells #[.int .u64 0, .int .i64 (E0 : Int), .pointer none] 100)) = W at *
  obtain ⟨a0, a1, a2, a3, a4, a5⟩ := hT2
  obtain ⟨b0, b1, b2, b3, b4, b5⟩ := hT1
  go_wp2_with (fail)
  refine (sec0_any w.heap.size E _ a0 a1).mono ?_
  rintro e w1 ⟨rfl, rfl⟩
  go_wp2_with (fail)
  refine (sec0_any (w.heap.size + 1) E0 _ b0 b1).mono ?_
  rintro e w1' ⟨rfl, rfl⟩
  go_wp2_with (fail)
  refine (nsec0_any w.heap.size _ a0).mono ?_
  rintro e w2 ⟨rfl, rfl⟩
  go_wp2_with (fail)
  refine (nsec0_any (w.heap.size + 1) _ b0).mono ?_
  rintro e w2' ⟨rfl, rfl⟩
  go_wp2_with (fail)
  have HS : TS2 w2' w.heap.size (w.heap.size + 1) (.int .u64 0) (.int .i64 (E : Int)) (.pointer none) (.int .u64 0) (.int .i64 (E0 : Int)) (.pointer none) w2' := ⟨a0, a1, a2, b0, b1, b2, Kept.refl _ _⟩
  have HSS := Go.Lib.hid HS
  clear a0 a1 a2 a3 a4 a5 b0 b1 b2 b3 b4 b5 HS hd1 hd2 hx1
  go_region_held3 (fun w' => w'.cell? ⟨w.heap.size, 0, none⟩ = some (.int .u64 0) ∧ w'.cell? ⟨w.heap.size, 1, none⟩ = some (.int .i64 (E : Int)) ∧ w'.cell? ⟨w.heap.size, 2, none⟩ = some (.pointer none) ∧ w'.cell? ⟨w.heap.size + 1, 0, none⟩ = some (.int .u64 0) ∧ w'.cell? ⟨w.heap.size + 1, 1, none⟩ = some (.int .i64 (E0 : Int)) ∧ w'.cell? ⟨w.heap.size + 1, 2, none⟩ = some (.pointer none) ∧ Fresh w2' w')
    (first | exact TS2.drew HSS.out | exact TS2.same (by assumption) | exact TS2.fresh (by assumption) (by assumption))
    (first
      | (go_at_call 161; refine (Add_any E0 E D X HX.out hD0 hD1 HE.out h2 _).mono ?_; rintro e w' ⟨rfl, hF⟩)
      | (go_at_call 162; refine (Equal_any E _).mono ?_; rintro e w' ⟨rfl, hF⟩))
  rename_i hA
  have HF := Go.Lib.hid (hF2.fresh hA.2.2.2.2.2.2)
  clear hA
  go_wp2
  go_ret
  exact ⟨rfl, HF.out⟩
end Go.Proofs.Ytahcaoenddapoaa
