/- encodeDateTim4. -/
import Derived.Test.YtahcaoenddapoaaEdt
namespace Go.Proofs.Ytahcaoenddapoaa
open Go.RowKit

theorem Minute0 (E : Nat) (s : Int) (hs : ((E % 3600 / 60 : Nat) : Int) = s) (hE : E ≤ 400000000000) (w : World) : Calls Try.prog 113 #[tv0 E (.pointer none)] w fun e w' => e = .returned (.int .i64 s) ∧ Fresh w w' := Minute_at 0 E s hs (by decide) hE w
theorem Hour0 (E : Nat) (s : Int) (hs : ((E % 86400 / 3600 : Nat) : Int) = s) (hE : E ≤ 400000000000) (w : World) : Calls Try.prog 114 #[tv0 E (.pointer none)] w fun e w' => e = .returned (.int .i64 s) ∧ Fresh w w' := Hour_at 0 E s hs (by decide) hE w

theorem rep_four4 (x y : Nat) : (((((List.replicate 4 0).set 0 (x % 256)).set 1 (x / 256 % 256)).set 2 (y % 256)).set 3 (y / 256 % 256)) = leB x 2 ++ leB y 2 := by
  have h : ∀ t : Nat, leB t 2 = [t % 256, t / 256 % 256] := fun t => by simp [leB, List.range_succ]
  rw [h, h]
  rfl

set_option maxRecDepth 100000 in
set_option maxHeartbeats 1000000 in
theorem encDateTim4_any (E x mn q : Nat) (hE0 : 59926608000 ≤ E) (hx : (E - 59926608000) / 86400 = x) (hx1 : x < 65536) (hmn : E % 86400 / 60 = mn) (hE : E ≤ 400000000000) (w : World) (c0 : w.cell? ⟨q, 0, none⟩ = some (.bool true)) (c2 : w.cell? ⟨q, 2, none⟩ = some (.slice none 0 0)) :
    Calls Try.prog 94 #[tv0 E (.pointer none), .pointer (some ⟨q, 0, none⟩)] w fun e w' => ∃ v, e = .returned v ∧ Row w.heap.size w' v (leB x 2 ++ leB mn 2) ∧ Fresh w w' := by
  obtain ⟨i0, hi, hz0, hz1, hz2⟩ := info_parts info5
  have hT0 := T3.new w (.int .u64 0) (.int .i64 (E : Int)) (.pointer none) 100
  have hF0 : Fresh w (w.alloc (.cells #[.int .u64 0, .int .i64 (E : Int), .pointer none] 100)) := (Kept.refl w _).alloc _
  have hs0 : (w.alloc (.cells #[.int .u64 0, .int .i64 (E : Int), .pointer none] 100)).heap.size = w.heap.size + 1 := by simp
  have hsz : w.heap.size ≤ (w.alloc (.cells #[.int .u64 0, .int .i64 (E : Int), .pointer none] 100)).heap.size := hF0.size
  obtain ⟨S2, hS2⟩ : ∃ S : Int, ((E % 3600 / 60 : Nat) : Int) = S := ⟨_, rfl⟩
  obtain ⟨S3, hS3⟩ : ∃ S : Int, ((E % 86400 / 3600 : Nat) : Int) = S := ⟨_, rfl⟩
  obtain ⟨E0, hE00⟩ : ∃ m : Nat, m = 59926608000 := ⟨_, rfl⟩
  obtain ⟨D, hD⟩ : ∃ D : Int, D = (E : Int) - (E0 : Int) := ⟨_, rfl⟩
  have hE0i : (E0 : Int) = 59926608000 := by omega
  have d0 : 0 ≤ D := by omega
  have d1 : D ≤ 9000000000 := by omega
  have hDE : (E0 : Int) + D = (E : Int) := by omega
  obtain ⟨X, hX⟩ : ∃ X : Int, X = D * 1000000000 := ⟨_, rfl⟩
  have x0 : 0 ≤ X := by omega
  have hq : X / 86400000000000 = (x : Int) := by omega
  have hq2 : X.tdiv 86400000000000 = (x : Int) := by rw [Int.tdiv_eq_ediv_of_nonneg x0]; exact hq
  obtain ⟨Y, hY⟩ : ∃ Y : Int, Y = (x : Int) := ⟨_, rfl⟩
  rw [← hY] at hq hq2
  have y0 : 0 ≤ Y := by omega
  have y1 : Y ≤ 65535 := by omega
  have u3 : 0 ≤ S2 := by omega
  have u4 : S2 ≤ 59 := by omega
  have u5 : 0 ≤ S3 := by omega
  have u6 : S3 ≤ 23 := by omega
  obtain ⟨M, hM⟩ : ∃ M : Int, M = (mn : Int) := ⟨_, rfl⟩
  have hMS : M = S3 * 60 + S2 := by omega
  have m0 : 0 ≤ M := by omega
  have m1 : M ≤ 65535 := by omega
  have hmn1 : mn < 65536 := by omega
  have w1 : IntKind.i64.wrap (S3 * 60) = S3 * 60 := IntWalk.i64_in _ (by omega)
  have w2 : IntKind.i64.wrap (S3 * 60 + S2) = M := by rw [hMS]; exact IntWalk.i64_in _ (by omega)
  have HS2 := Go.Lib.hid hS2
  have HS3 := Go.Lib.hid hS3
  have HE := Go.Lib.hid hE
  have HE0 := Go.Lib.hid hE0i
  have HDE := Go.Lib.hid hDE
  have HX := Go.Lib.hid hX
  have HY := Go.Lib.hid hY
  have HM := Go.Lib.hid hM
  have HX1 := Go.Lib.hid hx1
  have HMN := Go.Lib.hid hmn1
  have e0 := hF0.held c0 (fun h => h)
  have e2 := hF0.held c2 (fun h => h)
  clear hS2 hS3 hE hE00 hD hE0i hDE hX hY hM hx1 hmn1 hE0 hx hmn hMS c0 c2 u3 u4 u5 u6
  go_enter Try.func94, Try.ntmps94
  go_wp2_with (at_make; refine wpList_make_full _ rfl _ _ 24 rfl w.heap.size 5 i0 (.int .u8 0) 1 Try.underlying24 hi hz0 hz1 .i64 .i64 _ _ 4 rfl rfl rfl rfl (by rw [hz2]; omega) (by unfold maxLen; omega) hsz ?_; intro w2 hown hgr; have hr2 : Row w.heap.size w2 (.slice (some ⟨(w.alloc (.cells #[.int .u64 0, .int .i64 (E : Int), .pointer none] 100)).heap.size, 0, none⟩) 4 4) (List.replicate 4 0) := RowK.of_own hown (by rw [Nat.mul_one]; show (madeCells #[.int .u8 0] _).toList = _; rw [toList_madeCells_one]; simp [ints]) rfl; have hFb : Fresh (w.alloc (.cells #[.int .u64 0, .int .i64 (E : Int), .pointer none] 100)) w2 := (Kept.of_grown hgr).mono (fun _ _ h => by cases h); rw [hs0] at hr2; have HRW := Go.Lib.hid hr2; have hF2 := hF0.fresh hFb; have hT2 := hT0.fresh hFb; have p0 := hFb.held e0 (fun h => h); have p2 := hFb.held e2 (fun h => h); clear hr2 hown hgr hFb e0 e2 hT0)
  refine (Date1900 q E0 HE0.out _ p0 p2).mono ?_
  rintro e w3 ⟨rfl, hF3⟩
  have hA := T3.new w3 (.int .u64 0) (.int .i64 (E0 : Int)) (.pointer none) 100
  have hF4 : Fresh w3 (w3.alloc (.cells #[.int .u64 0, .int .i64 (E0 : Int), .pointer none] 100)) := (Kept.refl w3 _).alloc _
  have hT4 := (hT2.fresh hF3).fresh hF4
  have hF5 := (hF2.fresh hF3).fresh hF4
  have HR4 := Go.Lib.hid ((HRW.out.fresh hF3).fresh hF4)
  clear hT2 hF2 hF0 hF3 hF4 p0 p2 hsz hs0 HRW
  go_upto_region 3 with (fail)
  generalize (w3.alloc (.cells #[.int .u64 0, .int .i64 (E0 : Int), .pointer none] 100)) = W at *
  obtain ⟨a0, a1, a2, a3, a4, a5⟩ := hA
  have HT4 := Go.Lib.hid hT4
  obtain ⟨b0, b1, b2, b3, b4, b5⟩ := hT4
  go_wp2_with (fail)
  refine (Sub_any E E0 D X HX.out d0 d1 HDE.out (by have := HE.out; omega) _).mono ?_
  rintro e w5 ⟨rfl, hF6⟩
  have HT5 := Go.Lib.hid (HT4.out.fresh hF6)
  have HR5 := Go.Lib.hid (HR4.out.fresh hF6)
  have HF5 := Go.Lib.hid (hF5.fresh hF6)
  clear a0 a1 a2 a3 a4 a5 b0 b1 b2 b3 b4 b5 hF6 hF5 HT4 HR4
  go_wp2_with (fail)
  go_region_held3 (fun w' => w'.cell? ⟨w.heap.size, 0, none⟩ = some (.int .u64 0) ∧ w'.cell? ⟨w.heap.size, 1, none⟩ = some (.int .i64 (E : Int)) ∧ w'.cell? ⟨w.heap.size, 2, none⟩ = some (.pointer none) ∧ Fresh w5 w')
    (first | exact TS.start HT5.out | exact TS.same (by assumption) | exact TS.fresh (by assumption) (by assumption))
    (first
      | (go_at_call 113; refine (Minute0 E S2 HS2.out HE.out _).mono ?_; rintro e w' ⟨rfl, hF⟩)
      | (go_at_call 114; refine (Hour0 E S3 HS3.out HE.out _).mono ?_; rintro e w' ⟨rfl, hF⟩))
  rename_i hB
  have HF6 := Go.Lib.hid (HF5.out.fresh hB.2.2.2)
  have HR6 := Go.Lib.hid (HR5.out.fresh hB.2.2.2)
  clear hB w1 w2
  have n1 : ¬ Y < 0 := by omega
  go_wp2_with (fail)
  rw [HY.out]
  refine (lePut16_any w.heap.size (w.heap.size + 1) 0 4 4 2 4 x _ _ HR6.out (by decide) (by decide) HX1.out).mono ?_
  rintro e w7 ⟨rfl, hr7, hK7⟩
  have HR7 := Go.Lib.hid hr7
  have HF7 := Go.Lib.hid (HF6.out.trans hK7 (fun k hk e => by omega))
  clear hr7 hK7
  go_wp2_with (fail)
  rw [HM.out]
  refine (lePut16_any w.heap.size (w.heap.size + 1) 2 4 4 2 2 mn _ _ HR7.out (by decide) (by decide) HMN.out).mono ?_
  rintro e w8 ⟨rfl, hr8, hK8⟩
  have HR8 := Go.Lib.hid hr8
  have HF8 := Go.Lib.hid (HF7.out.trans hK8 (fun k hk e => by omega))
  clear hr8 hK8
  go_wp2
  go_ret
  refine ⟨_, rfl, ?_, HF8.out⟩
  rw [← rep_four4]
  exact HR8.out
end Go.Proofs.Ytahcaoenddapoaa
