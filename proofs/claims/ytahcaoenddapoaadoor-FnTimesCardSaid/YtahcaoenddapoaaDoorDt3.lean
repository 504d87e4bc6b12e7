/- Dates and times are encoded: the bytes. (Printed by gendt3.py.) -/
import Derived.Test.YtahcaoenddapoaaDoorDt2
namespace Go.Proofs.YtahcaoenddapoaaDoor
open Go.RowKit

theorem div_small (T : Int) (h0 : 0 ≤ T) (h : T ≤ 3652059) : T / ((65536 : Nat) : Int) % ((256 : Nat) : Int) = T / 65536 := by omega

theorem tsz_cases (s : Nat) : tsz s = 3 ∨ tsz s = 4 ∨ tsz s = 5 := by unfold tsz; split <;> (try split) <;> simp

set_option maxRecDepth 100000 in
theorem encDate_any (n E : Nat) (hn : n < 1000000000) (hE : E / 86400 ≤ 3652058) (w : World) : Calls Tryd.prog 38 #[tv n E (.pointer none)] w fun e w' => ∃ v, e = .returned v ∧ Row w.heap.size w' v (leB (E / 86400) 3) ∧ Fresh w w' := by
  obtain ⟨i0, hi, hz0, hz1, hz2⟩ := info_parts info5
  have hF0 : Fresh w (w.alloc (.cells #[.int .u64 (n : Int), .int .i64 (E : Int), .pointer none] 51)) := (Kept.refl w _).alloc _
  have HE := Go.Lib.hid hE
  have HN := Go.Lib.hid hn
  clear hn hE
  go_enter Tryd.func38, Tryd.ntmps38
  go_wp2_with (fail)
  refine (dateTime2_any n E HN.out HE.out _).mono ?_
  rintro e w1 ⟨rfl, hF1⟩
  have hF2 := hF0.fresh hF1
  have hsz := hF2.size
  have hE1 := HE.out
  generalize hd : E / 86400 = d at *
  have HD := Go.Lib.hid hd
  clear hd
  generalize E % 86400 = sec at *
  obtain ⟨B0, hB0⟩ : ∃ B : Nat, B = d % 256 := ⟨_, rfl⟩
  obtain ⟨B1, hB1⟩ : ∃ B : Nat, B = d / 256 % 256 := ⟨_, rfl⟩
  obtain ⟨B2, hB2⟩ : ∃ B : Nat, B = d / 65536 % 256 := ⟨_, rfl⟩
  have e0 : (B0 : Int) = (d : Int) % 256 := by rw [hB0]; rfl
  have e1 : (B1 : Int) = (d : Int) / 256 % 256 := by rw [hB1]; exact nat_div_mod _ _ _
  have e2 : (B2 : Int) = (d : Int) / 65536 := by rw [hB2, nat_div_mod]; exact div_small _ (Int.natCast_nonneg _) (by omega)
  have hD0 : (0 : Int) ≤ (d : Int) := Int.natCast_nonneg _
  have hD1 : (d : Int) ≤ 3652058 := by omega
  have HB0 := Go.Lib.hid hB0
  have HB1 := Go.Lib.hid hB1
  have HB2 := Go.Lib.hid hB2
  clear hB0 hB1 hB2 hE1 HE
  generalize (d : Int) = T at *
  go_wp2_with (at_make; refine wpList_make_full _ rfl _ _ 23 rfl w.heap.size 5 i0 (.int .u8 0) 1 Tryd.underlying23 hi hz0 hz1 .i64 .i64 _ _ 3 rfl rfl rfl rfl (by rw [hz2]; omega) (by unfold maxLen; omega) hsz ?_; intro w2 hown hgr; have hr2 : Row w.heap.size w2 (.slice (some ⟨w1.heap.size, 0, none⟩) 3 3) [0, 0, 0] := RowK.of_own hown (by rw [Nat.mul_one]; show (madeCells #[.int .u8 0] _).toList = _; rw [toList_madeCells_one]; simp [ints]) rfl; have c0 := hr2.cellAt 0 (by decide); have c1 := hr2.cellAt 1 (by decide); have c2 := hr2.cellAt 2 (by decide); have f0 := hr2.frozenAt 0; have f1 := hr2.frozenAt 1; have f2 := hr2.frozenAt 2; have hr3 := ((hr2.stored 0 B0).stored 1 B1).stored 2 B2; have hF3 : Fresh w w2 := hF2.fresh ((Kept.of_grown hgr).mono (fun _ _ h => by cases h)); rw [e0, e1, e2] at hr3; have HR := Go.Lib.hid hr3; have HF := Go.Lib.hid hF3; clear hr2 hr3 hown hgr hF3 e0 e1 e2)
  go_ret
  refine ⟨_, rfl, ?_, fresh_set (fresh_set (fresh_set HF.out hsz _) hsz _) hsz _⟩
  rw [HD.out, leB_three, ← HB0.out, ← HB1.out, ← HB2.out]
  exact HR.out

set_option maxRecDepth 100000 in
theorem encTimeB_3 (s t : Nat) (h mi sc N : Int) (hs : s ≤ 7) (hm : tsz s = 3) (h0 : 0 ≤ h) (h1 : h ≤ 23) (m0 : 0 ≤ mi) (m1 : mi ≤ 59) (s0 : 0 ≤ sc) (s1 : sc ≤ 59) (hN0 : 0 ≤ N) (hN1 : N < 1000000000) (ht : ((h * 3600 + mi * 60 + sc) * 1000000000 + N) / ((10 ^ (9 - s) : Nat) : Int) = (t : Int)) (w : World) (hP : Pw w) :
    Calls Tryd.prog 48 #[.int .i64 h, .int .i64 mi, .int .i64 sc, .int .i64 N, .int .i64 (s : Int)] w fun e w' => ∃ v, e = .returned v ∧ Row w.heap.size w' v (leB t (tsz s)) ∧ Fresh w w' := by
  obtain ⟨i0, hi, hz0, hz1, hz2⟩ := info_parts info5
  have hsum : h * 3600 + mi * 60 + sc ≤ 86400 := by omega
  have hsum0 : 0 ≤ h * 3600 + mi * 60 + sc := by omega
  have b1 : h * 3600 ≤ 86400 := by omega
  have b2 : mi * 60 ≤ 86400 := by omega
  have b3 : h * 3600 + mi * 60 ≤ 86400 := by omega
  have b10 : 0 ≤ h * 3600 := by omega
  have b20 : 0 ≤ mi * 60 := by omega
  have b30 : 0 ≤ h * 3600 + mi * 60 := by omega
  have HT := Go.Lib.hid ht
  have em : ((tsz s : Nat) : Int) = 3 := by rw [hm]; rfl
  have HM := Go.Lib.hid hm
  have HP := Go.Lib.hid hP
  clear ht hm hP
  go_enter Tryd.func48, Tryd.ntmps48
  go_wp2_with (fail)
  refine (tsz_any s hs _).mono ?_
  rintro e w1 ⟨rfl, rfl⟩
  rw [em]
  clear em
  go_wp2_with (at_make; refine wpList_make_full _ rfl _ _ 23 rfl w1.heap.size 5 i0 (.int .u8 0) 1 Tryd.underlying23 hi hz0 hz1 .i64 .i64 _ _ 3 rfl rfl rfl rfl (by rw [hz2]; omega) (by unfold maxLen; omega) (Nat.le_refl _) ?_; intro w2 hown hgr; have hr2 : Row w1.heap.size w2 (.slice (some ⟨w1.heap.size, 0, none⟩) 3 3) (List.replicate 3 0) := RowK.of_own hown (by rw [Nat.mul_one]; show (madeCells #[.int .u8 0] _).toList = _; rw [toList_madeCells_one]; simp [ints]) rfl; have hF2 : Fresh w1 w2 := (Kept.of_grown hgr).mono (fun _ _ h => by cases h); have HR := Go.Lib.hid hr2; have HF := Go.Lib.hid hF2; clear hr2 hown hgr hF2)
  refine (encTime_any s t _ N hs hsum0 hsum hN0 hN1 HT.out w1.heap.size w1.heap.size 3 3 (List.replicate 3 0) _ HR.out (by rw [HM.out]; decide) (HP.out.fresh HF.out)).mono ?_
  rintro e w3 ⟨rfl, hr3, hK3⟩
  have HR3 := Go.Lib.hid hr3
  have HK3 := Go.Lib.hid hK3
  clear hr3 hK3
  go_wp2
  go_ret
  refine ⟨_, rfl, ?_, HF.out.trans HK3.out (fun k hk e => by omega)⟩
  have := timed_eq s t 0
  rw [HM.out] at this ⊢
  rw [show List.replicate 3 0 = List.replicate (3 + 0) 0 from rfl, this, List.replicate_zero, List.append_nil] at HR3
  exact HR3.out

set_option maxRecDepth 100000 in
theorem encTimeB_4 (s t : Nat) (h mi sc N : Int) (hs : s ≤ 7) (hm : tsz s = 4) (h0 : 0 ≤ h) (h1 : h ≤ 23) (m0 : 0 ≤ mi) (m1 : mi ≤ 59) (s0 : 0 ≤ sc) (s1 : sc ≤ 59) (hN0 : 0 ≤ N) (hN1 : N < 1000000000) (ht : ((h * 3600 + mi * 60 + sc) * 1000000000 + N) / ((10 ^ (9 - s) : Nat) : Int) = (t : Int)) (w : World) (hP : Pw w) :
    Calls Tryd.prog 48 #[.int .i64 h, .int .i64 mi, .int .i64 sc, .int .i64 N, .int .i64 (s : Int)] w fun e w' => ∃ v, e = .returned v ∧ Row w.heap.size w' v (leB t (tsz s)) ∧ Fresh w w' := by
  obtain ⟨i0, hi, hz0, hz1, hz2⟩ := info_parts info5
  have hsum : h * 3600 + mi * 60 + sc ≤ 86400 := by omega
  have hsum0 : 0 ≤ h * 3600 + mi * 60 + sc := by omega
  have b1 : h * 3600 ≤ 86400 := by omega
  have b2 : mi * 60 ≤ 86400 := by omega
  have b3 : h * 3600 + mi * 60 ≤ 86400 := by omega
  have b10 : 0 ≤ h * 3600 := by omega
  have b20 : 0 ≤ mi * 60 := by omega
  have b30 : 0 ≤ h * 3600 + mi * 60 := by omega
  have HT := Go.Lib.hid ht
  have em : ((tsz s : Nat) : Int) = 4 := by rw [hm]; rfl
  have HM := Go.Lib.hid hm
  have HP := Go.Lib.hid hP
  clear ht hm hP
  go_enter Tryd.func48, Tryd.ntmps48
  go_wp2_with (fail)
  refine (tsz_any s hs _).mono ?_
  rintro e w1 ⟨rfl, rfl⟩
  rw [em]
  clear em
  go_wp2_with (at_make; refine wpList_make_full _ rfl _ _ 23 rfl w1.heap.size 5 i0 (.int .u8 0) 1 Tryd.underlying23 hi hz0 hz1 .i64 .i64 _ _ 4 rfl rfl rfl rfl (by rw [hz2]; omega) (by unfold maxLen; omega) (Nat.le_refl _) ?_; intro w2 hown hgr; have hr2 : Row w1.heap.size w2 (.slice (some ⟨w1.heap.size, 0, none⟩) 4 4) (List.replicate 4 0) := RowK.of_own hown (by rw [Nat.mul_one]; show (madeCells #[.int .u8 0] _).toList = _; rw [toList_madeCells_one]; simp [ints]) rfl; have hF2 : Fresh w1 w2 := (Kept.of_grown hgr).mono (fun _ _ h => by cases h); have HR := Go.Lib.hid hr2; have HF := Go.Lib.hid hF2; clear hr2 hown hgr hF2)
  refine (encTime_any s t _ N hs hsum0 hsum hN0 hN1 HT.out w1.heap.size w1.heap.size 4 4 (List.replicate 4 0) _ HR.out (by rw [HM.out]; decide) (HP.out.fresh HF.out)).mono ?_
  rintro e w3 ⟨rfl, hr3, hK3⟩
  have HR3 := Go.Lib.hid hr3
  have HK3 := Go.Lib.hid hK3
  clear hr3 hK3
  go_wp2
  go_ret
  refine ⟨_, rfl, ?_, HF.out.trans HK3.out (fun k hk e => by omega)⟩
  have := timed_eq s t 0
  rw [HM.out] at this ⊢
  rw [show List.replicate 4 0 = List.replicate (4 + 0) 0 from rfl, this, List.replicate_zero, List.append_nil] at HR3
  exact HR3.out

set_option maxRecDepth 100000 in
theorem encTimeB_5 (s t : Nat) (h mi sc N : Int) (hs : s ≤ 7) (hm : tsz s = 5) (h0 : 0 ≤ h) (h1 : h ≤ 23) (m0 : 0 ≤ mi) (m1 : mi ≤ 59) (s0 : 0 ≤ sc) (s1 : sc ≤ 59) (hN0 : 0 ≤ N) (hN1 : N < 1000000000) (ht : ((h * 3600 + mi * 60 + sc) * 1000000000 + N) / ((10 ^ (9 - s) : Nat) : Int) = (t : Int)) (w : World) (hP : Pw w) :
    Calls Tryd.prog 48 #[.int .i64 h, .int .i64 mi, .int .i64 sc, .int .i64 N, .int .i64 (s : Int)] w fun e w' => ∃ v, e = .returned v ∧ Row w.heap.size w' v (leB t (tsz s)) ∧ Fresh w w' := by
  obtain ⟨i0, hi, hz0, hz1, hz2⟩ := info_parts info5
  have hsum : h * 3600 + mi * 60 + sc ≤ 86400 := by omega
  have hsum0 : 0 ≤ h * 3600 + mi * 60 + sc := by omega
  have b1 : h * 3600 ≤ 86400 := by omega
  have b2 : mi * 60 ≤ 86400 := by omega
  have b3 : h * 3600 + mi * 60 ≤ 86400 := by omega
  have b10 : 0 ≤ h * 3600 := by omega
  have b20 : 0 ≤ mi * 60 := by omega
  have b30 : 0 ≤ h * 3600 + mi * 60 := by omega
  have HT := Go.Lib.hid ht
  have em : ((tsz s : Nat) : Int) = 5 := by rw [hm]; rfl
  have HM := Go.Lib.hid hm
  have HP := Go.Lib.hid hP
  clear ht hm hP
  go_enter Tryd.func48, Tryd.ntmps48
  go_wp2_with (fail)
  refine (tsz_any s hs _).mono ?_
  rintro e w1 ⟨rfl, rfl⟩
  rw [em]
  clear em
  go_wp2_with (at_make; refine wpList_make_full _ rfl _ _ 23 rfl w1.heap.size 5 i0 (.int .u8 0) 1 Tryd.underlying23 hi hz0 hz1 .i64 .i64 _ _ 5 rfl rfl rfl rfl (by rw [hz2]; omega) (by unfold maxLen; omega) (Nat.le_refl _) ?_; intro w2 hown hgr; have hr2 : Row w1.heap.size w2 (.slice (some ⟨w1.heap.size, 0, none⟩) 5 5) (List.replicate 5 0) := RowK.of_own hown (by rw [Nat.mul_one]; show (madeCells #[.int .u8 0] _).toList = _; rw [toList_madeCells_one]; simp [ints]) rfl; have hF2 : Fresh w1 w2 := (Kept.of_grown hgr).mono (fun _ _ h => by cases h); have HR := Go.Lib.hid hr2; have HF := Go.Lib.hid hF2; clear hr2 hown hgr hF2)
  refine (encTime_any s t _ N hs hsum0 hsum hN0 hN1 HT.out w1.heap.size w1.heap.size 5 5 (List.replicate 5 0) _ HR.out (by rw [HM.out]; decide) (HP.out.fresh HF.out)).mono ?_
  rintro e w3 ⟨rfl, hr3, hK3⟩
  have HR3 := Go.Lib.hid hr3
  have HK3 := Go.Lib.hid hK3
  clear hr3 hK3
  go_wp2
  go_ret
  refine ⟨_, rfl, ?_, HF.out.trans HK3.out (fun k hk e => by omega)⟩
  have := timed_eq s t 0
  rw [HM.out] at this ⊢
  rw [show List.replicate 5 0 = List.replicate (5 + 0) 0 from rfl, this, List.replicate_zero, List.append_nil] at HR3
  exact HR3.out

theorem encTimeB_any (s t : Nat) (h mi sc N : Int) (hs : s ≤ 7) (h0 : 0 ≤ h) (h1 : h ≤ 23) (m0 : 0 ≤ mi) (m1 : mi ≤ 59) (s0 : 0 ≤ sc) (s1 : sc ≤ 59) (hN0 : 0 ≤ N) (hN1 : N < 1000000000) (ht : ((h * 3600 + mi * 60 + sc) * 1000000000 + N) / ((10 ^ (9 - s) : Nat) : Int) = (t : Int)) (w : World) (hP : Pw w) :
    Calls Tryd.prog 48 #[.int .i64 h, .int .i64 mi, .int .i64 sc, .int .i64 N, .int .i64 (s : Int)] w fun e w' => ∃ v, e = .returned v ∧ Row w.heap.size w' v (leB t (tsz s)) ∧ Fresh w w' := by
  rcases tsz_cases s with hm | hm | hm
  · exact encTimeB_3 s t h mi sc N hs hm h0 h1 m0 m1 s0 s1 hN0 hN1 ht w hP
  · exact encTimeB_4 s t h mi sc N hs hm h0 h1 m0 m1 s0 s1 hN0 hN1 ht w hP
  · exact encTimeB_5 s t h mi sc N hs hm h0 h1 m0 m1 s0 s1 hN0 hN1 ht w hP
end Go.Proofs.YtahcaoenddapoaaDoor
