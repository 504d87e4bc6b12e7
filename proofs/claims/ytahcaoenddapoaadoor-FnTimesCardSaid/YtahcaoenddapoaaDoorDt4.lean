/- Dates with times are encoded: the bytes. (Printed by gendt4.py.) -/
import Derived.Test.YtahcaoenddapoaaDoorDt3
namespace Go.Proofs.YtahcaoenddapoaaDoor
open Go.RowKit

theorem three_more (t d m : Nat) (hm : m = 3 ∨ m = 4 ∨ m = 5) (k : Nat) : (((leB t m ++ List.replicate (3 + k) 0).set m (d % 256)).set (m + 1) (d / 256 % 256)).set (m + 2) (d / 65536 % 256) = leB t m ++ leB d 3 ++ List.replicate k 0 := by
  rw [rep_three, leB_three]
  rcases hm with rfl | rfl | rfl
  · rw [leB_three]; rfl
  · rw [leB_four]; rfl
  · rw [leB_five]; rfl

theorem two_more (t d o m : Nat) (hm : m = 3 ∨ m = 4 ∨ m = 5) : ((leB t m ++ leB d 3 ++ List.replicate 2 0).set (m + 3) (o % 256)).set (m + 4) (o / 256 % 256) = leB t m ++ leB d 3 ++ leB o 2 := by
  have h2 : leB o 2 = [o % 256, o / 256 % 256] := by simp [leB, List.range_succ]
  rw [h2, leB_three d]
  rcases hm with rfl | rfl | rfl
  · rw [leB_three]; rfl
  · rw [leB_four]; rfl
  · rw [leB_five]; rfl

set_option maxRecDepth 100000 in
set_option maxHeartbeats 1000000 in
theorem encDT2_3 (n E s t : Nat) (hn : n < 1000000000) (hE : E / 86400 ≤ 3652058) (hs : s ≤ 7) (hm : tsz s = 3) (ht : (((E % 86400 : Nat) : Int) * 1000000000 + (n : Int)) / ((10 ^ (9 - s) : Nat) : Int) = (t : Int)) (w : World) (hP : Pw w) :
    Calls Tryd.prog 49 #[tv n E (.pointer none), .int .i64 (s : Int)] w fun e w' => ∃ v, e = .returned v ∧ Row w.heap.size w' v (leB t (tsz s) ++ leB (E / 86400) 3) ∧ Fresh w w' := by
  obtain ⟨i0, hi, hz0, hz1, hz2⟩ := info_parts info5
  have hF0 : Fresh w (w.alloc (.cells #[.int .u64 (n : Int), .int .i64 (E : Int), .pointer none] 51)) := (Kept.refl w _).alloc _
  have HE := Go.Lib.hid hE
  have HN := Go.Lib.hid hn
  have HT := Go.Lib.hid ht
  have em : ((tsz s : Nat) : Int) = 3 := by rw [hm]; rfl
  have HM := Go.Lib.hid hm
  have HP := Go.Lib.hid hP
  clear hn hE ht hm hP
  go_enter Tryd.func49, Tryd.ntmps49
  go_wp2_with (fail)
  refine (dateTime2_any n E HN.out HE.out _).mono ?_
  rintro e w1 ⟨rfl, hF1⟩
  have hF2 := hF0.fresh hF1
  have hsz := hF2.size
  have hE1 := HE.out
  have hsec : ((E % 86400 : Nat) : Int) ≤ 86400 := by omega
  have hsec0 : (0 : Int) ≤ ((E % 86400 : Nat) : Int) := Int.natCast_nonneg _
  have hn0 : (0 : Int) ≤ (n : Int) := Int.natCast_nonneg _
  have hn1 : (n : Int) < 1000000000 := by have := HN.out; omega
  generalize hd : E / 86400 = d at *
  have HD := Go.Lib.hid hd
  clear hd
  generalize ((E % 86400 : Nat) : Int) = sec at *
  generalize hNN : (n : Int) = NN at *
  have HNN := Go.Lib.hid hNN
  clear hNN
  go_wp2_with (fail)
  refine (tsz_any s hs _).mono ?_
  rintro e w1' ⟨rfl, rfl⟩
  rw [em]
  clear em
  obtain ⟨B0, hB0⟩ : ∃ B : Nat, B = d % 256 := ⟨_, rfl⟩
  obtain ⟨B1, hB1⟩ : ∃ B : Nat, B = d / 256 % 256 := ⟨_, rfl⟩
  obtain ⟨B2, hB2⟩ : ∃ B : Nat, B = d / 65536 % 256 := ⟨_, rfl⟩
  have e0 : (B0 : Int) = (d : Int) % 256 := by rw [hB0]; rfl
  have e1 : (B1 : Int) = (d : Int) / 256 % 256 := by rw [hB1]; exact nat_div_mod _ _ _
  have e2 : (B2 : Int) = (d : Int) / 65536 := by rw [hB2, nat_div_mod]; exact div_small _ (Int.natCast_nonneg _) (by omega)
  have hD0 : (0 : Int) ≤ (d : Int) := Int.natCast_nonneg _
  have hD1 : (d : Int) ≤ 3652058 := by omega
  have HB0 := Go.Lib.hid hB0
  have HB1 := Go.Lib.hid hB1
  have HB2 := Go.Lib.hid hB2
  clear hB0 hB1 hB2 hE1 HE
  generalize (d : Int) = T at *
  go_wp2_with (at_make; refine wpList_make_full _ rfl _ _ 23 rfl w.heap.size 5 i0 (.int .u8 0) 1 Tryd.underlying23 hi hz0 hz1 .i64 .i64 _ _ 6 rfl rfl rfl rfl (by rw [hz2]; omega) (by unfold maxLen; omega) hsz ?_; intro w2 hown hgr; have hr2 : Row w.heap.size w2 (.slice (some ⟨w1'.heap.size, 0, none⟩) 6 6) (List.replicate 6 0) := RowK.of_own hown (by rw [Nat.mul_one]; show (madeCells #[.int .u8 0] _).toList = _; rw [toList_madeCells_one]; simp [ints]) rfl; have hF3 : Fresh w1' w2 := (Kept.of_grown hgr).mono (fun _ _ h => by cases h); have HR := Go.Lib.hid hr2; have HF := Go.Lib.hid (hF2.fresh hF3); clear hr2 hown hgr hF3)
  refine (encTime_any s t sec NN hs hsec0 hsec hn0 hn1 HT.out w.heap.size w1'.heap.size 6 6 (List.replicate 6 0) _ HR.out (by rw [HM.out]; decide) (HP.out.fresh HF.out)).mono ?_
  rintro e w3 ⟨rfl, hr3, hK3⟩
  have hq := timed_eq s t 3
  rw [HM.out] at hq
  rw [show List.replicate 6 0 = List.replicate (3 + 3) 0 from rfl, hq] at hr3
  have hl : (leB t 3 ++ List.replicate 3 0).length = 6 := by rw [List.length_append, leB_length, List.length_replicate]
  obtain ⟨z0, c0⟩ : ∃ z : Int, w3.cell? ⟨w1'.heap.size, 3, none⟩ = some (.int .u8 z) := ⟨_, hr3.cellAt 3 (by rw [hl]; omega)⟩
  obtain ⟨z1, c1⟩ : ∃ z : Int, w3.cell? ⟨w1'.heap.size, 4, none⟩ = some (.int .u8 z) := ⟨_, hr3.cellAt 4 (by rw [hl]; omega)⟩
  obtain ⟨z2, c2⟩ : ∃ z : Int, w3.cell? ⟨w1'.heap.size, 5, none⟩ = some (.int .u8 z) := ⟨_, hr3.cellAt 5 (by rw [hl]; omega)⟩
  have f0 := hr3.frozenAt 3
  have f1 := hr3.frozenAt 4
  have f2 := hr3.frozenAt 5
  have hr4 := ((hr3.stored 3 B0).stored 4 B1).stored 5 B2
  rw [e0, e1, e2] at hr4
  have HR4 := Go.Lib.hid hr4
  have HF4 := Go.Lib.hid (HF.out.trans hK3 (fun k hk e => by omega))
  clear hr3 hr4 hK3 hq hl e0 e1 e2
  go_wp2
  go_ret
  refine ⟨_, rfl, ?_, fresh_set (fresh_set (fresh_set HF4.out hsz _) hsz _) hsz _⟩
  have h3 := three_more t d 3 (by decide) 0
  rw [List.replicate_zero, List.append_nil] at h3
  rw [HM.out, HD.out, ← h3, ← HB0.out, ← HB1.out, ← HB2.out]
  exact HR4.out

set_option maxRecDepth 100000 in
set_option maxHeartbeats 1000000 in
theorem encDT2_4 (n E s t : Nat) (hn : n < 1000000000) (hE : E / 86400 ≤ 3652058) (hs : s ≤ 7) (hm : tsz s = 4) (ht : (((E % 86400 : Nat) : Int) * 1000000000 + (n : Int)) / ((10 ^ (9 - s) : Nat) : Int) = (t : Int)) (w : World) (hP : Pw w) :
    Calls Tryd.prog 49 #[tv n E (.pointer none), .int .i64 (s : Int)] w fun e w' => ∃ v, e = .returned v ∧ Row w.heap.size w' v (leB t (tsz s) ++ leB (E / 86400) 3) ∧ Fresh w w' := by
  obtain ⟨i0, hi, hz0, hz1, hz2⟩ := info_parts info5
  have hF0 : Fresh w (w.alloc (.cells #[.int .u64 (n : Int), .int .i64 (E : Int), .pointer none] 51)) := (Kept.refl w _).alloc _
  have HE := Go.Lib.hid hE
  have HN := Go.Lib.hid hn
  have HT := Go.Lib.hid ht
  have em : ((tsz s : Nat) : Int) = 4 := by rw [hm]; rfl
  have HM := Go.Lib.hid hm
  have HP := Go.Lib.hid hP
  clear hn hE ht hm hP
  go_enter Tryd.func49, Tryd.ntmps49
  go_wp2_with (fail)
  refine (dateTime2_any n E HN.out HE.out _).mono ?_
  rintro e w1 ⟨rfl, hF1⟩
  have hF2 := hF0.fresh hF1
  have hsz := hF2.size
  have hE1 := HE.out
  have hsec : ((E % 86400 : Nat) : Int) ≤ 86400 := by omega
  have hsec0 : (0 : Int) ≤ ((E % 86400 : Nat) : Int) := Int.natCast_nonneg _
  have hn0 : (0 : Int) ≤ (n : Int) := Int.natCast_nonneg _
  have hn1 : (n : Int) < 1000000000 := by have := HN.out; omega
  generalize hd : E / 86400 = d at *
  have HD := Go.Lib.hid hd
  clear hd
  generalize ((E % 86400 : Nat) : Int) = sec at *
  generalize hNN : (n : Int) = NN at *
  have HNN := Go.Lib.hid hNN
  clear hNN
  go_wp2_with (fail)
  refine (tsz_any s hs _).mono ?_
  rintro e w1' ⟨rfl, rfl⟩
  rw [em]
  clear em
  obtain ⟨B0, hB0⟩ : ∃ B : Nat, B = d % 256 := ⟨_, rfl⟩
  obtain ⟨B1, hB1⟩ : ∃ B : Nat, B = d / 256 % 256 := ⟨_, rfl⟩
  obtain ⟨B2, hB2⟩ : ∃ B : Nat, B = d / 65536 % 256 := ⟨_, rfl⟩
  have e0 : (B0 : Int) = (d : Int) % 256 := by rw [hB0]; rfl
  have e1 : (B1 : Int) = (d : Int) / 256 % 256 := by rw [hB1]; exact nat_div_mod _ _ _
  have e2 : (B2 : Int) = (d : Int) / 65536 := by rw [hB2, nat_div_mod]; exact div_small _ (Int.natCast_nonneg _) (by omega)
  have hD0 : (0 : Int) ≤ (d : Int) := Int.natCast_nonneg _
  have hD1 : (d : Int) ≤ 3652058 := by omega
  have HB0 := Go.Lib.hid hB0
  have HB1 := Go.Lib.hid hB1
  have HB2 := Go.Lib.hid hB2
  clear hB0 hB1 hB2 hE1 HE
  generalize (d : Int) = T at *
  go_wp2_with (at_make; refine wpList_make_full _ rfl _ _ 23 rfl w.heap.size 5 i0 (.int .u8 0) 1 Tryd.underlying23 hi hz0 hz1 .i64 .i64 _ _ 7 rfl rfl rfl rfl (by rw [hz2]; omega) (by unfold maxLen; omega) hsz ?_; intro w2 hown hgr; have hr2 : Row w.heap.size w2 (.slice (some ⟨w1'.heap.size, 0, none⟩) 7 7) (List.replicate 7 0) := RowK.of_own hown (by rw [Nat.mul_one]; show (madeCells #[.int .u8 0] _).toList = _; rw [toList_madeCells_one]; simp [ints]) rfl; have hF3 : Fresh w1' w2 := (Kept.of_grown hgr).mono (fun _ _ h => by cases h); have HR := Go.Lib.hid hr2; have HF := Go.Lib.hid (hF2.fresh hF3); clear hr2 hown hgr hF3)
  refine (encTime_any s t sec NN hs hsec0 hsec hn0 hn1 HT.out w.heap.size w1'.heap.size 7 7 (List.replicate 7 0) _ HR.out (by rw [HM.out]; decide) (HP.out.fresh HF.out)).mono ?_
  rintro e w3 ⟨rfl, hr3, hK3⟩
  have hq := timed_eq s t 3
  rw [HM.out] at hq
  rw [show List.replicate 7 0 = List.replicate (4 + 3) 0 from rfl, hq] at hr3
  have hl : (leB t 4 ++ List.replicate 3 0).length = 7 := by rw [List.length_append, leB_length, List.length_replicate]
  obtain ⟨z0, c0⟩ : ∃ z : Int, w3.cell? ⟨w1'.heap.size, 4, none⟩ = some (.int .u8 z) := ⟨_, hr3.cellAt 4 (by rw [hl]; omega)⟩
  obtain ⟨z1, c1⟩ : ∃ z : Int, w3.cell? ⟨w1'.heap.size, 5, none⟩ = some (.int .u8 z) := ⟨_, hr3.cellAt 5 (by rw [hl]; omega)⟩
  obtain ⟨z2, c2⟩ : ∃ z : Int, w3.cell? ⟨w1'.heap.size, 6, none⟩ = some (.int .u8 z) := ⟨_, hr3.cellAt 6 (by rw [hl]; omega)⟩
  have f0 := hr3.frozenAt 4
  have f1 := hr3.frozenAt 5
  have f2 := hr3.frozenAt 6
  have hr4 := ((hr3.stored 4 B0).stored 5 B1).stored 6 B2
  rw [e0, e1, e2] at hr4
  have HR4 := Go.Lib.hid hr4
  have HF4 := Go.Lib.hid (HF.out.trans hK3 (fun k hk e => by omega))
  clear hr3 hr4 hK3 hq hl e0 e1 e2
  go_wp2
  go_ret
  refine ⟨_, rfl, ?_, fresh_set (fresh_set (fresh_set HF4.out hsz _) hsz _) hsz _⟩
  have h3 := three_more t d 4 (by decide) 0
  rw [List.replicate_zero, List.append_nil] at h3
  rw [HM.out, HD.out, ← h3, ← HB0.out, ← HB1.out, ← HB2.out]
  exact HR4.out

set_option maxRecDepth 100000 in
set_option maxHeartbeats 1000000 in
theorem encDT2_5 (n E s t : Nat) (hn : n < 1000000000) (hE : E / 86400 ≤ 3652058) (hs : s ≤ 7) (hm : tsz s = 5) (ht : (((E % 86400 : Nat) : Int) * 1000000000 + (n : Int)) / ((10 ^ (9 - s) : Nat) : Int) = (t : Int)) (w : World) (hP : Pw w) :
    Calls Tryd.prog 49 #[tv n E (.pointer none), .int .i64 (s : Int)] w fun e w' => ∃ v, e = .returned v ∧ Row w.heap.size w' v (leB t (tsz s) ++ leB (E / 86400) 3) ∧ Fresh w w' := by
  obtain ⟨i0, hi, hz0, hz1, hz2⟩ := info_parts info5
  have hF0 : Fresh w (w.alloc (.cells #[.int .u64 (n : Int), .int .i64 (E : Int), .pointer none] 51)) := (Kept.refl w _).alloc _
  have HE := Go.Lib.hid hE
  have HN := Go.Lib.hid hn
  have HT := Go.Lib.hid ht
  have em : ((tsz s : Nat) : Int) = 5 := by rw [hm]; rfl
  have HM := Go.Lib.hid hm
  have HP := Go.Lib.hid hP
  clear hn hE ht hm hP
  go_enter Tryd.func49, Tryd.ntmps49
  go_wp2_with (fail)
  refine (dateTime2_any n E HN.out HE.out _).mono ?_
  rintro e w1 ⟨rfl, hF1⟩
  have hF2 := hF0.fresh hF1
  have hsz := hF2.size
  have hE1 := HE.out
  have hsec : ((E % 86400 : Nat) : Int) ≤ 86400 := by omega
  have hsec0 : (0 : Int) ≤ ((E % 86400 : Nat) : Int) := Int.natCast_nonneg _
  have hn0 : (0 : Int) ≤ (n : Int) := Int.natCast_nonneg _
  have hn1 : (n : Int) < 1000000000 := by have := HN.out; omega
  generalize hd : E / 86400 = d at *
  have HD := Go.Lib.hid hd
  clear hd
  generalize ((E % 86400 : Nat) : Int) = sec at *
  generalize hNN : (n : Int) = NN at *
  have HNN := Go.Lib.hid hNN
  clear hNN
  go_wp2_with (fail)
  refine (tsz_any s hs _).mono ?_
  rintro e w1' ⟨rfl, rfl⟩
  rw [em]
  clear em
  obtain ⟨B0, hB0⟩ : ∃ B : Nat, B = d % 256 := ⟨_, rfl⟩
  obtain ⟨B1, hB1⟩ : ∃ B : Nat, B = d / 256 % 256 := ⟨_, rfl⟩
  obtain ⟨B2, hB2⟩ : ∃ B : Nat, B = d / 65536 % 256 := ⟨_, rfl⟩
  have e0 : (B0 : Int) = (d : Int) % 256 := by rw [hB0]; rfl
  have e1 : (B1 : Int) = (d : Int) / 256 % 256 := by rw [hB1]; exact nat_div_mod _ _ _
  have e2 : (B2 : Int) = (d : Int) / 65536 := by rw [hB2, nat_div_mod]; exact div_small _ (Int.natCast_nonneg _) (by omega)
  have hD0 : (0 : Int) ≤ (d : Int) := Int.natCast_nonneg _
  have hD1 : (d : Int) ≤ 3652058 := by omega
  have HB0 := Go.Lib.hid hB0
  have HB1 := Go.Lib.hid hB1
  have HB2 := Go.Lib.hid hB2
  clear hB0 hB1 hB2 hE1 HE
  generalize (d : Int) = T at *
  go_wp2_with (at_make; refine wpList_make_full _ rfl _ _ 23 rfl w.heap.size 5 i0 (.int .u8 0) 1 Tryd.underlying23 hi hz0 hz1 .i64 .i64 _ _ 8 rfl rfl rfl rfl (by rw [hz2]; omega) (by unfold maxLen; omega) hsz ?_; intro w2 hown hgr; have hr2 : Row w.heap.size w2 (.slice (some ⟨w1'.heap.size, 0, none⟩) 8 8) (List.replicate 8 0) := RowK.of_own hown (by rw [Nat.mul_one]; show (madeCells #[.int .u8 0] _).toList = _; rw [toList_madeCells_one]; simp [ints]) rfl; have hF3 : Fresh w1' w2 := (Kept.of_grown hgr).mono (fun _ _ h => by cases h); have HR := Go.Lib.hid hr2; have HF := Go.Lib.hid (hF2.fresh hF3); clear hr2 hown hgr hF3)
  refine (encTime_any s t sec NN hs hsec0 hsec hn0 hn1 HT.out w.heap.size w1'.heap.size 8 8 (List.replicate 8 0) _ HR.out (by rw [HM.out]; decide) (HP.out.fresh HF.out)).mono ?_
  rintro e w3 ⟨rfl, hr3, hK3⟩
  have hq := timed_eq s t 3
  rw [HM.out] at hq
  rw [show List.replicate 8 0 = List.replicate (5 + 3) 0 from rfl, hq] at hr3
  have hl : (leB t 5 ++ List.replicate 3 0).length = 8 := by rw [List.length_append, leB_length, List.length_replicate]
  obtain ⟨z0, c0⟩ : ∃ z : Int, w3.cell? ⟨w1'.heap.size, 5, none⟩ = some (.int .u8 z) := ⟨_, hr3.cellAt 5 (by rw [hl]; omega)⟩
  obtain ⟨z1, c1⟩ : ∃ z : Int, w3.cell? ⟨w1'.heap.size, 6, none⟩ = some (.int .u8 z) := ⟨_, hr3.cellAt 6 (by rw [hl]; omega)⟩
  obtain ⟨z2, c2⟩ : ∃ z : Int, w3.cell? ⟨w1'.heap.size, 7, none⟩ = some (.int .u8 z) := ⟨_, hr3.cellAt 7 (by rw [hl]; omega)⟩
  have f0 := hr3.frozenAt 5
  have f1 := hr3.frozenAt 6
  have f2 := hr3.frozenAt 7
  have hr4 := ((hr3.stored 5 B0).stored 6 B1).stored 7 B2
  rw [e0, e1, e2] at hr4
  have HR4 := Go.Lib.hid hr4
  have HF4 := Go.Lib.hid (HF.out.trans hK3 (fun k hk e => by omega))
  clear hr3 hr4 hK3 hq hl e0 e1 e2
  go_wp2
  go_ret
  refine ⟨_, rfl, ?_, fresh_set (fresh_set (fresh_set HF4.out hsz _) hsz _) hsz _⟩
  have h3 := three_more t d 5 (by decide) 0
  rw [List.replicate_zero, List.append_nil] at h3
  rw [HM.out, HD.out, ← h3, ← HB0.out, ← HB1.out, ← HB2.out]
  exact HR4.out

theorem encDT2_any (n E s t : Nat) (hn : n < 1000000000) (hE : E / 86400 ≤ 3652058) (hs : s ≤ 7) (ht : (((E % 86400 : Nat) : Int) * 1000000000 + (n : Int)) / ((10 ^ (9 - s) : Nat) : Int) = (t : Int)) (w : World) (hP : Pw w) :
    Calls Tryd.prog 49 #[tv n E (.pointer none), .int .i64 (s : Int)] w fun e w' => ∃ v, e = .returned v ∧ Row w.heap.size w' v (leB t (tsz s) ++ leB (E / 86400) 3) ∧ Fresh w w' := by
  rcases tsz_cases s with hm | hm | hm
  · exact encDT2_3 n E s t hn hE hs hm ht w hP
  · exact encDT2_4 n E s t hn hE hs hm ht w hP
  · exact encDT2_5 n E s t hn hE hs hm ht w hP
end Go.Proofs.YtahcaoenddapoaaDoor
