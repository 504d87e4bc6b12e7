/- encodeDateTime. -/
import Derived.Test.YtahcaoenddapoaaLep
namespace Go.Proofs.Ytahcaoenddapoaa
open Go.RowKit

theorem TS.drew {W w1 : World} {b : Nat} {x y z : Value} (h : TS W b x y z w1) : TS W b x y z w1.drew := ⟨h.1, h.2.1, h.2.2.1, h.2.2.2.drew⟩

theorem greg_of {E : Nat} (hE : E / 86400 ≤ 3652058) : 1 ≤ yr (absD (E / 86400)) ∧ yr (absD (E / 86400)) ≤ 20000 ∧ 1 ≤ yd (absD (E / 86400)) ∧ yd (absD (E / 86400)) ≤ 1000 ∧ gdays (yr (absD (E / 86400))) (yd (absD (E / 86400))) = E / 86400 := by
  have h := greg (E / 86400) (by omega)
  exact ⟨h.1, by omega, h.2.2.1, by omega, h.2.2.2.2⟩

theorem greg_at (E d : Nat) (hd : E / 86400 = d) (hE : d ≤ 3652058) (w : World) : Calls Try.prog 109 #[.int .i64 (yr (absD (E / 86400)) : Int), .int .i64 (yd (absD (E / 86400)) : Int)] w fun e w' => e = .returned (.int .i64 (d : Int)) ∧ w' = w := by
  subst hd
  obtain ⟨y1, y2, d1, d2, hg⟩ := greg_of hE
  exact (gregorian_any _ _ y1 y2 d1 d2 w).mono fun e w' ⟨h1, h2⟩ => ⟨by rw [h1, hg], h2⟩

theorem greg_1900 (w : World) : Calls Try.prog 109 #[.int .i64 1900, .int .i64 1] w fun e w' => e = .returned (.int .i64 693595) ∧ w' = w :=
  (gregorian_any 1900 1 (by decide) (by decide) (by decide) (by decide) w).mono fun e w' ⟨h1, h2⟩ => ⟨by rw [h1, show gdays 1900 1 = 693595 by decide]; rfl, h2⟩
theorem greg_1753 (w : World) : Calls Try.prog 109 #[.int .i64 1753, .int .i64 1] w fun e w' => e = .returned (.int .i64 639905) ∧ w' = w :=
  (gregorian_any 1753 1 (by decide) (by decide) (by decide) (by decide) w).mono fun e w' ⟨h1, h2⟩ => ⟨by rw [h1, show gdays 1753 1 = 639905 by decide]; rfl, h2⟩
theorem greg_9999 (w : World) : Calls Try.prog 109 #[.int .i64 9999, .int .i64 365] w fun e w' => e = .returned (.int .i64 3652058) ∧ w' = w :=
  (gregorian_any 9999 365 (by decide) (by decide) (by decide) (by decide) w).mono fun e w' ⟨h1, h2⟩ => ⟨by rw [h1, show gdays 9999 365 = 3652058 by decide]; rfl, h2⟩

theorem Second_at (n E : Nat) (s : Int) (hs : ((E % 60 : Nat) : Int) = s) (hn : n < 1073741824) (hE : E ≤ 400000000000) (w : World) : Calls Try.prog 112 #[tv n E (.pointer none)] w fun e w' => e = .returned (.int .i64 s) ∧ Fresh w w' := by subst hs; exact Second_any n E hn hE w
theorem Minute_at (n E : Nat) (s : Int) (hs : ((E % 3600 / 60 : Nat) : Int) = s) (hn : n < 1073741824) (hE : E ≤ 400000000000) (w : World) : Calls Try.prog 113 #[tv n E (.pointer none)] w fun e w' => e = .returned (.int .i64 s) ∧ Fresh w w' := by subst hs; exact Minute_any n E hn hE w
theorem Hour_at (n E : Nat) (s : Int) (hs : ((E % 86400 / 3600 : Nat) : Int) = s) (hn : n < 1073741824) (hE : E ≤ 400000000000) (w : World) : Calls Try.prog 114 #[tv n E (.pointer none)] w fun e w' => e = .returned (.int .i64 s) ∧ Fresh w w' := by subst hs; exact Hour_any n E hn hE w

theorem rep_eight (x y : Nat) : (((((((((List.replicate 8 0).set 0 (x % 256)).set 1 (x / 256 % 256)).set 2 (x / 65536 % 256)).set 3 (x / 16777216 % 256)).set 4 (y % 256)).set 5 (y / 256 % 256)).set 6 (y / 65536 % 256)).set 7 (y / 16777216 % 256)) = leB x 4 ++ leB y 4 := by
  have h : ∀ t : Nat, leB t 4 = [t % 256, t / 256 % 256, t / 65536 % 256, t / 16777216 % 256] := fun t => by simp [leB, List.range_succ]
  rw [h, h]
  rfl

set_option maxRecDepth 100000 in
set_option maxHeartbeats 1000000 in
theorem encDateTime_any (n E k d x tm : Nat) (hk : k < 100) (hn : n = 10000000 * k) (hd : E / 86400 = d) (hE : d ≤ 3652058) (hE0 : 639905 ≤ d) (hx : (x : Int) = ((d : Int) - 693595) % 4294967296) (htm : tm = 300 * (E % 86400) + 3 * k) (w : World) :
    Calls Try.prog 85 #[tv n E (.pointer none)] w fun e w' => ∃ v, e = .returned v ∧ Row w.heap.size w' v (leB x 4 ++ leB tm 4) ∧ Fresh w w' := by
  obtain ⟨i0, hi, hz0, hz1, hz2⟩ := info_parts info5
  have hT0 := T3.new w (.int .u64 (n : Int)) (.int .i64 (E : Int)) (.pointer none) 100
  have hF0 : Fresh w (w.alloc (.cells #[.int .u64 (n : Int), .int .i64 (E : Int), .pointer none] 100)) := (Kept.refl w _).alloc _
  obtain ⟨S1, hS1⟩ : ∃ S : Int, ((E % 60 : Nat) : Int) = S := ⟨_, rfl⟩
  obtain ⟨S2, hS2⟩ : ∃ S : Int, ((E % 3600 / 60 : Nat) : Int) = S := ⟨_, rfl⟩
  obtain ⟨S3, hS3⟩ : ∃ S : Int, ((E % 86400 / 3600 : Nat) : Int) = S := ⟨_, rfl⟩
  have hn2 : n < 1073741824 := by omega
  have hE4 : E ≤ 400000000000 := by omega
  have hnK : (n : Int) = ((10000000 * k : Nat) : Int) := by rw [hn]
  have u1 : 0 ≤ S1 := by omega
  have u2 : S1 ≤ 59 := by omega
  have u3 : 0 ≤ S2 := by omega
  have u4 : S2 ≤ 59 := by omega
  have u5 : 0 ≤ S3 := by omega
  have u6 : S3 ≤ 23 := by omega
  have tmE : (tm : Int) = 300 * (S1 + S2 * 60 + S3 * 60 * 60) + 3 * (k : Int) := by omega
  obtain ⟨D, hD⟩ : ∃ D : Int, D = (d : Int) - 693595 := ⟨_, rfl⟩
  have k0 : 0 ≤ 3 * (k : Int) := by omega
  have k1 : 3 * (k : Int) ≤ 297 := by omega
  have D0 : -53690 ≤ D := by omega
  have D1 : D ≤ 2958463 := by omega
  have hDx : (x : Int) = D % 4294967296 := by rw [hx, hD]
  have hx4 : x < 4294967296 := by omega
  have htm4 : tm < 4294967296 := by omega
  have w1 : IntKind.i64.wrap (S2 * 60) = S2 * 60 := IntWalk.i64_in _ (by omega)
  have w2 : IntKind.i64.wrap (S1 + S2 * 60) = S1 + S2 * 60 := IntWalk.i64_in _ (by omega)
  have w3 : IntKind.i64.wrap (S3 * 60) = S3 * 60 := IntWalk.i64_in _ (by omega)
  have w4 : IntKind.i64.wrap (S3 * 60 * 60) = S3 * 60 * 60 := IntWalk.i64_in _ (by omega)
  have w5 : IntKind.i64.wrap (S1 + S2 * 60 + S3 * 60 * 60) = S1 + S2 * 60 + S3 * 60 * 60 := IntWalk.i64_in _ (by omega)
  have w6 : IntKind.i64.wrap (300 * (S1 + S2 * 60 + S3 * 60 * 60)) = 300 * (S1 + S2 * 60 + S3 * 60 * 60) := IntWalk.i64_in _ (by omega)
  obtain ⟨R, hR⟩ : ∃ R : Int, R = 3 * (k : Int) := ⟨_, rfl⟩
  rw [← hR] at tmE k0 k1
  obtain ⟨M, hM⟩ : ∃ M : Int, M = (tm : Int) := ⟨_, rfl⟩
  have w7 : IntKind.i64.wrap (300 * (S1 + S2 * 60 + S3 * 60 * 60) + R) = M := by rw [hM, tmE]; exact IntWalk.i64_in _ (by omega)
  have w8 : IntKind.i64.wrap ((d : Int) - 693595) = D := by rw [hD]; exact IntWalk.i64_in _ (by omega)
  have M0 : 0 ≤ M := by omega
  have M1 : M < 25920000 := by omega
  have HS1 := Go.Lib.hid hS1
  have HS2 := Go.Lib.hid hS2
  have HS3 := Go.Lib.hid hS3
  have HN2 := Go.Lib.hid hn2
  have HE4 := Go.Lib.hid hE4
  have HNK := Go.Lib.hid hnK
  have HDX := Go.Lib.hid hDx
  have HM := Go.Lib.hid hM
  have HR := Go.Lib.hid hR
  have HD := Go.Lib.hid hd
  have HX4 := Go.Lib.hid hx4
  have HTM4 := Go.Lib.hid htm4
  have HE1 := Go.Lib.hid hE
  have HKK := Go.Lib.hid hk
  clear hS1 hS2 hS3 hn2 hE4 hnK hDx hM hR hd hx4 htm4 hE hE0 hx htm hn tmE hD hk
  go_enter Try.func85, Try.ntmps85
  go_wp2_with (fail)
  refine (greg_1900 _).mono ?_
  rintro e wg ⟨rfl, rfl⟩
  go_wp2_with (fail)
  generalize (w.alloc (.cells #[.int .u64 (n : Int), .int .i64 (E : Int), .pointer none] 100)) = W at *
  have HT := Go.Lib.hid hT0
  clear hT0
  go_region_held3 (fun w' => w'.cell? ⟨w.heap.size, 0, none⟩ = some (.int .u64 (n : Int)) ∧ w'.cell? ⟨w.heap.size, 1, none⟩ = some (.int .i64 (E : Int)) ∧ w'.cell? ⟨w.heap.size, 2, none⟩ = some (.pointer none) ∧ Fresh W w')
    (first | exact TS.start HT.out | exact TS.same (by assumption) | exact TS.fresh (by assumption) (by assumption))
    (first
      | (go_at_call 110; refine (Year_any n E HN2.out HE4.out _).mono ?_; rintro e w' ⟨rfl, hF⟩)
      | (go_at_call 111; refine (YearDay_any n E HN2.out HE4.out _).mono ?_; rintro e w' ⟨rfl, hF⟩)
      | (go_at_call 109; refine (greg_at E d HD.out HE1.out _).mono ?_; rintro e w' ⟨rfl, rfl⟩))
  rename_i hA
  clear w8
  go_wp2_with (fail)
  go_region_held3 (fun w' => w'.cell? ⟨w.heap.size, 0, none⟩ = some (.int .u64 (n : Int)) ∧ w'.cell? ⟨w.heap.size, 1, none⟩ = some (.int .i64 (E : Int)) ∧ w'.cell? ⟨w.heap.size, 2, none⟩ = some (.pointer none) ∧ Fresh W w')
    (first | exact TS.drew hA | exact TS.same (by assumption) | exact TS.fresh (by assumption) (by assumption))
    (first
      | (go_at_call 112; refine (Second_at n E S1 HS1.out HN2.out HE4.out _).mono ?_; rintro e w' ⟨rfl, hF⟩)
      | (go_at_call 113; refine (Minute_at n E S2 HS2.out HN2.out HE4.out _).mono ?_; rintro e w' ⟨rfl, hF⟩)
      | (go_at_call 114; refine (Hour_at n E S3 HS3.out HN2.out HE4.out _).mono ?_; rintro e w' ⟨rfl, hF⟩)
      | (go_at_call 116; refine (Nanosecond_any n E HN2.out _).mono ?_; rintro e w' ⟨rfl, hF⟩)
      | (go_at_call 115; refine (three_any k HKK.out _ HNK.out _).mono ?_; rintro e w' ⟨rfl, rfl⟩; rw [← HR.out]))
  rename_i hB
  have hFw := hF0.fresh hB.2.2.2
  clear hA hB w1 w2 w3 w4 w5 w6 w7 hF0
  have hsz := hFw.size
  have HFW := Go.Lib.hid hFw
  clear hFw
  go_wp2_with (fail)
  refine (greg_1753 _).mono ?_
  rintro e wg ⟨rfl, rfl⟩
  go_wp2_with (fail)
  refine (greg_9999 _).mono ?_
  rintro e wg ⟨rfl, rfl⟩
  have n1 : ¬ D < -53690 := by omega
  have n2 : ¬ 2958463 < D := by omega
  go_wp2_with (at_make; refine wpList_make_full _ rfl _ _ 24 rfl w.heap.size 5 i0 (.int .u8 0) 1 Try.underlying24 hi hz0 hz1 .i64 .i64 _ _ 8 rfl rfl rfl rfl (by rw [hz2]; omega) (by unfold maxLen; omega) hsz ?_; intro w2 hown hgr; have hr2 : Row w.heap.size w2 (.slice (some ⟨wg.heap.size, 0, none⟩) 8 8) (List.replicate 8 0) := RowK.of_own hown (by rw [Nat.mul_one]; show (madeCells #[.int .u8 0] _).toList = _; rw [toList_madeCells_one]; simp [ints]) rfl; have hF3 : Fresh w w2 := HFW.out.fresh ((Kept.of_grown hgr).mono (fun _ _ h => by cases h)); have HRW := Go.Lib.hid hr2; have HF3 := Go.Lib.hid hF3; clear hr2 hF3 hown hgr)
  rw [← HDX.out]
  refine (lePut32_any w.heap.size wg.heap.size 0 8 8 8 x _ _ HRW.out (by decide) HX4.out).mono ?_
  rintro e w3 ⟨rfl, hr3, hK3⟩
  have HR3 := Go.Lib.hid hr3
  have HF4 := Go.Lib.hid (HF3.out.trans hK3 (fun k hk e => by omega))
  clear hr3 hK3
  go_wp2_with (fail)
  rw [HM.out]
  refine (lePut32_any w.heap.size wg.heap.size 4 8 8 4 tm _ _ HR3.out (by decide) HTM4.out).mono ?_
  rintro e w4 ⟨rfl, hr4, hK4⟩
  have HR4 := Go.Lib.hid hr4
  have HF5 := Go.Lib.hid (HF4.out.trans hK4 (fun k hk e => by omega))
  clear hr4 hK4
  go_wp2
  go_ret
  refine ⟨_, rfl, ?_, HF5.out⟩
  rw [← rep_eight]
  exact HR4.out
end Go.Proofs.Ytahcaoenddapoaa
