/- Dates with times at an offset are encoded: the bytes. (Printed by gendt5.py.) -/
import Derived.Test.YtahcaoenddapoaaDoorDt4
namespace Go.Proofs.YtahcaoenddapoaaDoor
open Go.RowKit

theorem utc_f (w : World) : Calls Tryd.prog 57 #[] w fun e w' => ∃ q, e = .returned (.pointer (some ⟨q, 0, none⟩)) ∧ w'.cell? ⟨q, 0, none⟩ = some (.bool true) ∧ Fresh w w' :=
  (utc_any w).mono fun e w' ⟨h1, h2⟩ => ⟨w.heap.size, h1, by rw [h2]; exact utc_cell w 0, by rw [h2]; exact (Kept.refl w _).alloc _⟩

theorem dt2_at (n E d sN : Nat) (hd : E / 86400 = d) (hsN : E % 86400 = sN) (hn : n < 1000000000) (hE : d ≤ 3652058) (w : World) : Calls Tryd.prog 54 #[tv n E (.pointer none)] w fun e w' => e = .returned (.tuple #[.int .i64 (d : Int), .int .i64 (sN : Int), .int .i64 (n : Int)]) ∧ Fresh w w' := by
  subst hd hsN
  exact dateTime2_any n E hn hE w

theorem off_low (o : Int) (oo B : Nat) (h : (oo : Int) = o % 18446744073709551616) (hB : B = oo % 256) : (B : Int) = o % 256 := by omega
theorem off_high (o : Int) (oo B : Nat) (h : (oo : Int) = o % 18446744073709551616) (hB : B = oo / 256 % 256) : (B : Int) = o / 256 % 256 := by omega

set_option maxRecDepth 100000 in
set_option maxHeartbeats 1000000 in
theorem encDTO_3 (n E s t oo : Nat) (o : Int) (r : Option Addr) (hn : n < 1000000000) (hE : E / 86400 ≤ 3652058) (hs : s ≤ 7) (hm : tsz s = 3) (ho0 : -840 ≤ o) (ho1 : o ≤ 840) (hoo : (oo : Int) = o % 18446744073709551616) (ht : (((E % 86400 : Nat) : Int) * 1000000000 + (n : Int)) / ((10 ^ (9 - s) : Nat) : Int) = (t : Int)) (w : World) (hP : Pw w) (hA : At w r (o * 60)) :
    Calls Tryd.prog 50 #[tv n E (.pointer r), .int .i64 (s : Int)] w fun e w' => ∃ v, e = .returned v ∧ Row w.heap.size w' v (leB t (tsz s) ++ leB (E / 86400) 3 ++ leB oo 2) ∧ Fresh w w' := by
  obtain ⟨i0, hi, hz0, hz1, hz2⟩ := info_parts info5
  have hF0 : Fresh w (w.alloc (.cells #[.int .u64 (n : Int), .int .i64 (E : Int), .pointer r] 51)) := (Kept.refl w _).alloc _
  have hT0 := T3.new w (.int .u64 (n : Int)) (.int .i64 (E : Int)) (.pointer r) 51
  have hsz0 : (w.alloc (.cells #[.int .u64 (n : Int), .int .i64 (E : Int), .pointer r] 51)).heap.size = w.heap.size + 1 := by simp
  obtain ⟨d, hd⟩ : ∃ d, E / 86400 = d := ⟨_, rfl⟩
  obtain ⟨sN, hsN⟩ : ∃ d, E % 86400 = d := ⟨_, rfl⟩
  have hsec : (sN : Int) ≤ 86400 := by omega
  rw [hd] at hE
  rw [hsN] at ht
  have HD := Go.Lib.hid hd
  have HSN := Go.Lib.hid hsN
  have HE := Go.Lib.hid hE
  have HN := Go.Lib.hid hn
  have HT := Go.Lib.hid ht
  have HOO := Go.Lib.hid hoo
  have HA := Go.Lib.hid hA
  have em : ((tsz s : Nat) : Int) = 3 := by rw [hm]; rfl
  have HM := Go.Lib.hid hm
  have HP := Go.Lib.hid hP
  clear hn hE ht hm hP hA hoo hd hsN
  go_enter Tryd.func50, Tryd.ntmps50
  go_wp2_with (fail)
  refine (tsz_any s hs _).mono ?_
  rintro e w0 ⟨rfl, rfl⟩
  rw [em]
  clear em
  have hsz : w.heap.size ≤ (w.alloc (.cells #[.int .u64 (n : Int), .int .i64 (E : Int), .pointer r] 51)).heap.size := by omega
  have hF0' := hF0
  generalize (w.alloc (.cells #[.int .u64 (n : Int), .int .i64 (E : Int), .pointer r] 51)) = w1 at *
  clear hF0
  have HSZ := Go.Lib.hid hsz0
  clear hsz0
  go_wp2_with (at_make; refine wpList_make_full _ rfl _ _ 23 rfl w.heap.size 5 i0 (.int .u8 0) 1 Tryd.underlying23 hi hz0 hz1 .i64 .i64 _ _ 8 rfl rfl rfl rfl (by rw [hz2]; omega) (by unfold maxLen; omega) hsz ?_; intro w2 hown hgr; have hr2 : Row w.heap.size w2 (.slice (some ⟨w1.heap.size, 0, none⟩) 8 8) (List.replicate 8 0) := RowK.of_own hown (by rw [Nat.mul_one]; show (madeCells #[.int .u8 0] _).toList = _; rw [toList_madeCells_one]; simp [ints]) rfl; have hF3 : Fresh w1 w2 := (Kept.of_grown hgr).mono (fun _ _ h => by cases h); have HR := Go.Lib.hid hr2; have HF := Go.Lib.hid (hF0'.fresh hF3); have HTT := Go.Lib.hid (hT0.fresh hF3); clear hr2 hown hgr hF3)
  clear hT0
  go_region_held3 (fun w' => w'.cell? ⟨w.heap.size, 0, none⟩ = some (.int .u64 (n : Int)) ∧ w'.cell? ⟨w.heap.size, 1, none⟩ = some (.int .i64 (E : Int)) ∧ w'.cell? ⟨w.heap.size, 2, none⟩ = some (.pointer r) ∧ Fresh w2 w')
    (first | exact TS.start HTT.out | exact TS.same (by assumption) | exact TS.fresh (by assumption) (by assumption))
    (first
      | (go_at_call 57; refine (utc_f _).mono ?_; rintro e w' ⟨q, rfl, hq, hF⟩)
      | (go_at_call 41; refine (In_any n E _ true r (by have := HN.out; omega) _ hq).mono ?_; rintro e w' ⟨rfl, hF⟩; rw [show plc true q = .pointer none from rfl])
      | (go_at_call 54; refine (dt2_at n E d sN HD.out HSN.out HN.out HE.out _).mono ?_; rintro e w' ⟨rfl, hF⟩))
  rename_i hA1
  have hF4 := hA1.2.2.2
  have hr4 := HR.out.fresh hF4
  have hT4 := HTT.out.fresh hF4
  have hFw4 := HF.out.fresh hF4
  clear hA1 hF4
  have hsec0 : (0 : Int) ≤ (sN : Int) := Int.natCast_nonneg _
  have hn0 : (0 : Int) ≤ (n : Int) := Int.natCast_nonneg _
  have hn1 : (n : Int) < 1000000000 := by have := HN.out; omega
  have hE1 := HE.out
  have hE12 : E ≤ 1000000000000 := by have := HD.out; omega
  have HE12 := Go.Lib.hid hE12
  clear hE12
  obtain ⟨B0, hB0⟩ : ∃ B : Nat, B = d % 256 := ⟨_, rfl⟩
  obtain ⟨B1, hB1⟩ : ∃ B : Nat, B = d / 256 % 256 := ⟨_, rfl⟩
  obtain ⟨B2, hB2⟩ : ∃ B : Nat, B = d / 65536 % 256 := ⟨_, rfl⟩
  obtain ⟨B3, hB3⟩ : ∃ B : Nat, B = oo % 256 := ⟨_, rfl⟩
  obtain ⟨B4, hB4⟩ : ∃ B : Nat, B = oo / 256 % 256 := ⟨_, rfl⟩
  have e0 : (B0 : Int) = (d : Int) % 256 := by rw [hB0]; rfl
  have e1 : (B1 : Int) = (d : Int) / 256 % 256 := by rw [hB1]; exact nat_div_mod _ _ _
  have e2 : (B2 : Int) = (d : Int) / 65536 := by rw [hB2, nat_div_mod]; exact div_small _ (Int.natCast_nonneg _) (by omega)
  have e3 := off_low o oo B3 HOO.out hB3
  have e4 := off_high o oo B4 HOO.out hB4
  have hD0 : (0 : Int) ≤ (d : Int) := Int.natCast_nonneg _
  have hD1 : (d : Int) ≤ 3652058 := by omega
  have HB0 := Go.Lib.hid hB0
  have HB1 := Go.Lib.hid hB1
  have HB2 := Go.Lib.hid hB2
  have HB3 := Go.Lib.hid hB3
  have HB4 := Go.Lib.hid hB4
  clear hB0 hB1 hB2 hB3 hB4 hE1 HE
  generalize (d : Int) = T at *
  generalize hSS : (sN : Int) = sec at *
  generalize hNN : (n : Int) = NN at *
  have HNN := Go.Lib.hid hNN
  clear hNN hSS
  go_wp2_with (fail)
  refine (encTime_any s t sec NN hs hsec0 hsec hn0 hn1 HT.out w.heap.size w1.heap.size 8 8 (List.replicate 8 0) _ hr4 (by rw [HM.out]; decide) (HP.out.fresh hFw4)).mono ?_
  rintro e w5 ⟨rfl, hr5, hK5⟩
  have hq5 := timed_eq s t 5
  rw [HM.out] at hq5
  rw [show List.replicate 8 0 = List.replicate (3 + 5) 0 from rfl, hq5] at hr5
  have hl : (leB t 3 ++ List.replicate 5 0).length = 8 := by rw [List.length_append, leB_length, List.length_replicate]
  have hT5 := hT4.kept hK5 (by have := HSZ.out; omega)
  have hFw5 := hFw4.trans hK5 (fun k hk e => by omega)
  clear hT4 hFw4 hK5 hq5 hr4
  obtain ⟨z0, c0⟩ : ∃ z : Int, w5.cell? ⟨w1.heap.size, 3, none⟩ = some (.int .u8 z) := ⟨_, hr5.cellAt 3 (by rw [hl]; omega)⟩
  obtain ⟨z1, c1⟩ : ∃ z : Int, w5.cell? ⟨w1.heap.size, 4, none⟩ = some (.int .u8 z) := ⟨_, hr5.cellAt 4 (by rw [hl]; omega)⟩
  obtain ⟨z2, c2⟩ : ∃ z : Int, w5.cell? ⟨w1.heap.size, 5, none⟩ = some (.int .u8 z) := ⟨_, hr5.cellAt 5 (by rw [hl]; omega)⟩
  have f0 := hr5.frozenAt 3
  have f1 := hr5.frozenAt 4
  have f2 := hr5.frozenAt 5
  have hr6 := ((hr5.stored 3 B0).stored 4 B1).stored 5 B2
  have hT6 := hT5.kept ((((Kept.refl w5 (fun k => k = w1.heap.size)).setCell (p := ⟨w1.heap.size, 3, none⟩) (.inl rfl) (.int .u8 (B0 : Int))).setCell (p := ⟨w1.heap.size, 4, none⟩) (.inl rfl) (.int .u8 (B1 : Int))).setCell (p := ⟨w1.heap.size, 5, none⟩) (.inl rfl) (.int .u8 (B2 : Int))) (by have := HSZ.out; omega)
  have hFw6 : Fresh w (((w5.setCell ⟨w1.heap.size, 3, none⟩ (.int .u8 (B0 : Int))).setCell ⟨w1.heap.size, 4, none⟩ (.int .u8 (B1 : Int))).setCell ⟨w1.heap.size, 5, none⟩ (.int .u8 (B2 : Int))) := fresh_set (fresh_set (fresh_set hFw5 hsz _) hsz _) hsz _
  rw [e0, e1, e2] at hr6 hT6 hFw6
  have HR6 := Go.Lib.hid hr6
  have HT6 := Go.Lib.hid hT6
  have HF6 := Go.Lib.hid hFw6
  clear hr5 hr6 hl e0 e1 e2 hT5 hT6 hFw5 hFw6
  go_upto_region 8 with (fail)
  generalize hW6 : (((w5.setCell ⟨w1.heap.size, 3, none⟩ (.int .u8 (T % 256))).setCell ⟨w1.heap.size, 4, none⟩ (.int .u8 (T / 256 % 256))).setCell ⟨w1.heap.size, 5, none⟩ (.int .u8 (T / 65536))) = w6 at *
  clear c0 c1 c2 f0 f1 f2 hW6 hq
  obtain ⟨c0, c1, c2, f0, f1, f2⟩ := HT6.out
  rw [← HNN.out] at c0
  have hn2 : n < 1073741824 := by have := HN.out; omega
  have hE12 := HE12.out
  have hdiv : (o * 60).tdiv 60 = o := Int.mul_tdiv_cancel o (by decide)
  go_wp2_with (fail)
  refine (Zone_any n E (o * 60) r hn2 hE12 _ (HA.out.fresh HF6.out)).mono ?_
  rintro e w7 ⟨⟨nm, rfl⟩, hF7⟩
  clear c0 c1 c2 f0 f1 f2
  have hr7 := HR6.out.fresh hF7
  have hFw7 := HF6.out.fresh hF7
  have hl7 : ((((leB t 3 ++ List.replicate 5 0).set 3 B0).set 4 B1).set 5 B2).length = 8 := by rw [hr7.len]
  obtain ⟨z3, c3⟩ : ∃ z : Int, w7.cell? ⟨w1.heap.size, 6, none⟩ = some (.int .u8 z) := ⟨_, hr7.cellAt 6 (by rw [hl7]; omega)⟩
  obtain ⟨z4, c4⟩ : ∃ z : Int, w7.cell? ⟨w1.heap.size, 7, none⟩ = some (.int .u8 z) := ⟨_, hr7.cellAt 7 (by rw [hl7]; omega)⟩
  have f3 := hr7.frozenAt 6
  have f4 := hr7.frozenAt 7
  have hr8 := (hr7.stored 6 B3).stored 7 B4
  rw [e3, e4] at hr8
  have HR8 := Go.Lib.hid hr8
  have HF7 := Go.Lib.hid hFw7
  clear hr7 hr8 hFw7 hl7 e3 e4 hE12
  go_wp2
  go_ret
  refine ⟨_, rfl, ?_, fresh_set (fresh_set HF7.out hsz _) hsz _⟩
  have h3 := three_more t d 3 (by decide) 2
  have h4 := two_more t d oo 3 (by decide)
  rw [← h3] at h4
  rw [HM.out, HD.out, ← h4, ← HB0.out, ← HB1.out, ← HB2.out, ← HB3.out, ← HB4.out]
  exact HR8.out

set_option maxRecDepth 100000 in
set_option maxHeartbeats 1000000 in
theorem encDTO_4 (n E s t oo : Nat) (o : Int) (r : Option Addr) (hn : n < 1000000000) (hE : E / 86400 ≤ 3652058) (hs : s ≤ 7) (hm : tsz s = 4) (ho0 : -840 ≤ o) (ho1 : o ≤ 840) (hoo : (oo : Int) = o % 18446744073709551616) (ht : (((E % 86400 : Nat) : Int) * 1000000000 + (n : Int)) / ((10 ^ (9 - s) : Nat) : Int) = (t : Int)) (w : World) (hP : Pw w) (hA : At w r (o * 60)) :
    Calls Tryd.prog 50 #[tv n E (.pointer r), .int .i64 (s : Int)] w fun e w' => ∃ v, e = .returned v ∧ Row w.heap.size w' v (leB t (tsz s) ++ leB (E / 86400) 3 ++ leB oo 2) ∧ Fresh w w' := by
  obtain ⟨i0, hi, hz0, hz1, hz2⟩ := info_parts info5
  have hF0 : Fresh w (w.alloc (.cells #[.int .u64 (n : Int), .int .i64 (E : Int), .pointer r] 51)) := (Kept.refl w _).alloc _
  have hT0 := T3.new w (.int .u64 (n : Int)) (.int .i64 (E : Int)) (.pointer r) 51
  have hsz0 : (w.alloc (.cells #[.int .u64 (n : Int), .int .i64 (E : Int), .pointer r] 51)).heap.size = w.heap.size + 1 := by simp
  obtain ⟨d, hd⟩ : ∃ d, E / 86400 = d := ⟨_, rfl⟩
  obtain ⟨sN, hsN⟩ : ∃ d, E % 86400 = d := ⟨_, rfl⟩
  have hsec : (sN : Int) ≤ 86400 := by omega
  rw [hd] at hE
  rw [hsN] at ht
  have HD := Go.Lib.hid hd
  have HSN := Go.Lib.hid hsN
  have HE := Go.Lib.hid hE
  have HN := Go.Lib.hid hn
  have HT := Go.Lib.hid ht
  have HOO := Go.Lib.hid hoo
  have HA := Go.Lib.hid hA
  have em : ((tsz s : Nat) : Int) = 4 := by rw [hm]; rfl
  have HM := Go.Lib.hid hm
  have HP := Go.Lib.hid hP
  clear hn hE ht hm hP hA hoo hd hsN
  go_enter Tryd.func50, Tryd.ntmps50
  go_wp2_with (fail)
  refine (tsz_any s hs _).mono ?_
  rintro e w0 ⟨rfl, rfl⟩
  rw [em]
  clear em
  have hsz : w.heap.size ≤ (w.alloc (.cells #[.int .u64 (n : Int), .int .i64 (E : Int), .pointer r] 51)).heap.size := by omega
  have hF0' := hF0
  generalize (w.alloc (.cells #[.int .u64 (n : Int), .int .i64 (E : Int), .pointer r] 51)) = w1 at *
  clear hF0
  have HSZ := Go.Lib.hid hsz0
  clear hsz0
  go_wp2_with (at_make; refine wpList_make_full _ rfl _ _ 23 rfl w.heap.size 5 i0 (.int .u8 0) 1 Tryd.underlying23 hi hz0 hz1 .i64 .i64 _ _ 9 rfl rfl rfl rfl (by rw [hz2]; omega) (by unfold maxLen; omega) hsz ?_; intro w2 hown hgr; have hr2 : Row w.heap.size w2 (.slice (some ⟨w1.heap.size, 0, none⟩) 9 9) (List.replicate 9 0) := RowK.of_own hown (by rw [Nat.mul_one]; show (madeCells #[.int .u8 0] _).toList = _; rw [toList_madeCells_one]; simp [ints]) rfl; have hF3 : Fresh w1 w2 := (Kept.of_grown hgr).mono (fun _ _ h => by cases h); have HR := Go.Lib.hid hr2; have HF := Go.Lib.hid (hF0'.fresh hF3); have HTT := Go.Lib.hid (hT0.fresh hF3); clear hr2 hown hgr hF3)
  clear hT0
  go_region_held3 (fun w' => w'.cell? ⟨w.heap.size, 0, none⟩ = some (.int .u64 (n : Int)) ∧ w'.cell? ⟨w.heap.size, 1, none⟩ = some (.int .i64 (E : Int)) ∧ w'.cell? ⟨w.heap.size, 2, none⟩ = some (.pointer r) ∧ Fresh w2 w')
    (first | exact TS.start HTT.out | exact TS.same (by assumption) | exact TS.fresh (by assumption) (by assumption))
    (first
      | (go_at_call 57; refine (utc_f _).mono ?_; rintro e w' ⟨q, rfl, hq, hF⟩)
      | (go_at_call 41; refine (In_any n E _ true r (by have := HN.out; omega) _ hq).mono ?_; rintro e w' ⟨rfl, hF⟩; rw [show plc true q = .pointer none from rfl])
      | (go_at_call 54; refine (dt2_at n E d sN HD.out HSN.out HN.out HE.out _).mono ?_; rintro e w' ⟨rfl, hF⟩))
  rename_i hA1
  have hF4 := hA1.2.2.2
  have hr4 := HR.out.fresh hF4
  have hT4 := HTT.out.fresh hF4
  have hFw4 := HF.out.fresh hF4
  clear hA1 hF4
  have hsec0 : (0 : Int) ≤ (sN : Int) := Int.natCast_nonneg _
  have hn0 : (0 : Int) ≤ (n : Int) := Int.natCast_nonneg _
  have hn1 : (n : Int) < 1000000000 := by have := HN.out; omega
  have hE1 := HE.out
  have hE12 : E ≤ 1000000000000 := by have := HD.out; omega
  have HE12 := Go.Lib.hid hE12
  clear hE12
  obtain ⟨B0, hB0⟩ : ∃ B : Nat, B = d % 256 := ⟨_, rfl⟩
  obtain ⟨B1, hB1⟩ : ∃ B : Nat, B = d / 256 % 256 := ⟨_, rfl⟩
  obtain ⟨B2, hB2⟩ : ∃ B : Nat, B = d / 65536 % 256 := ⟨_, rfl⟩
  obtain ⟨B3, hB3⟩ : ∃ B : Nat, B = oo % 256 := ⟨_, rfl⟩
  obtain ⟨B4, hB4⟩ : ∃ B : Nat, B = oo / 256 % 256 := ⟨_, rfl⟩
  have e0 : (B0 : Int) = (d : Int) % 256 := by rw [hB0]; rfl
  have e1 : (B1 : Int) = (d : Int) / 256 % 256 := by rw [hB1]; exact nat_div_mod _ _ _
  have e2 : (B2 : Int) = (d : Int) / 65536 := by rw [hB2, nat_div_mod]; exact div_small _ (Int.natCast_nonneg _) (by omega)
  have e3 := off_low o oo B3 HOO.out hB3
  have e4 := off_high o oo B4 HOO.out hB4
  have hD0 : (0 : Int) ≤ (d : Int) := Int.natCast_nonneg _
  have hD1 : (d : Int) ≤ 3652058 := by omega
  have HB0 := Go.Lib.hid hB0
  have HB1 := Go.Lib.hid hB1
  have HB2 := Go.Lib.hid hB2
  have HB3 := Go.Lib.hid hB3
  have HB4 := Go.Lib.hid hB4
  clear hB0 hB1 hB2 hB3 hB4 hE1 HE
  generalize (d : Int) = T at *
  generalize hSS : (sN : Int) = sec at *
  generalize hNN : (n : Int) = NN at *
  have HNN := Go.Lib.hid hNN
  clear hNN hSS
  go_wp2_with (fail)
  refine (encTime_any s t sec NN hs hsec0 hsec hn0 hn1 HT.out w.heap.size w1.heap.size 9 9 (List.replicate 9 0) _ hr4 (by rw [HM.out]; decide) (HP.out.fresh hFw4)).mono ?_
  rintro e w5 ⟨rfl, hr5, hK5⟩
  have hq5 := timed_eq s t 5
  rw [HM.out] at hq5
  rw [show List.replicate 9 0 = List.replicate (4 + 5) 0 from rfl, hq5] at hr5
  have hl : (leB t 4 ++ List.replicate 5 0).length = 9 := by rw [List.length_append, leB_length, List.length_replicate]
  have hT5 := hT4.kept hK5 (by have := HSZ.out; omega)
  have hFw5 := hFw4.trans hK5 (fun k hk e => by omega)
  clear hT4 hFw4 hK5 hq5 hr4
  obtain ⟨z0, c0⟩ : ∃ z : Int, w5.cell? ⟨w1.heap.size, 4, none⟩ = some (.int .u8 z) := ⟨_, hr5.cellAt 4 (by rw [hl]; omega)⟩
  obtain ⟨z1, c1⟩ : ∃ z : Int, w5.cell? ⟨w1.heap.size, 5, none⟩ = some (.int .u8 z) := ⟨_, hr5.cellAt 5 (by rw [hl]; omega)⟩
  obtain ⟨z2, c2⟩ : ∃ z : Int, w5.cell? ⟨w1.heap.size, 6, none⟩ = some (.int .u8 z) := ⟨_, hr5.cellAt 6 (by rw [hl]; omega)⟩
  have f0 := hr5.frozenAt 4
  have f1 := hr5.frozenAt 5
  have f2 := hr5.frozenAt 6
  have hr6 := ((hr5.stored 4 B0).stored 5 B1).stored 6 B2
  have hT6 := hT5.kept ((((Kept.refl w5 (fun k => k = w1.heap.size)).setCell (p := ⟨w1.heap.size, 4, none⟩) (.inl rfl) (.int .u8 (B0 : Int))).setCell (p := ⟨w1.heap.size, 5, none⟩) (.inl rfl) (.int .u8 (B1 : Int))).setCell (p := ⟨w1.heap.size, 6, none⟩) (.inl rfl) (.int .u8 (B2 : Int))) (by have := HSZ.out; omega)
  have hFw6 : Fresh w (((w5.setCell ⟨w1.heap.size, 4, none⟩ (.int .u8 (B0 : Int))).setCell ⟨w1.heap.size, 5, none⟩ (.int .u8 (B1 : Int))).setCell ⟨w1.heap.size, 6, none⟩ (.int .u8 (B2 : Int))) := fresh_set (fresh_set (fresh_set hFw5 hsz _) hsz _) hsz _
  rw [e0, e1, e2] at hr6 hT6 hFw6
  have HR6 := Go.Lib.hid hr6
  have HT6 := Go.Lib.hid hT6
  have HF6 := Go.Lib.hid hFw6
  clear hr5 hr6 hl e0 e1 e2 hT5 hT6 hFw5 hFw6
  go_upto_region 8 with (fail)
  generalize hW6 : (((w5.setCell ⟨w1.heap.size, 4, none⟩ (.int .u8 (T % 256))).setCell ⟨w1.heap.size, 5, none⟩ (.int .u8 (T / 256 % 256))).setCell ⟨w1.heap.size, 6, none⟩ (.int .u8 (T / 65536))) = w6 at *
  clear c0 c1 c2 f0 f1 f2 hW6 hq
  obtain ⟨c0, c1, c2, f0, f1, f2⟩ := HT6.out
  rw [← HNN.out] at c0
  have hn2 : n < 1073741824 := by have := HN.out; omega
  have hE12 := HE12.out
  have hdiv : (o * 60).tdiv 60 = o := Int.mul_tdiv_cancel o (by decide)
  go_wp2_with (fail)
  refine (Zone_any n E (o * 60) r hn2 hE12 _ (HA.out.fresh HF6.out)).mono ?_
  rintro e w7 ⟨⟨nm, rfl⟩, hF7⟩
  clear c0 c1 c2 f0 f1 f2
  have hr7 := HR6.out.fresh hF7
  have hFw7 := HF6.out.fresh hF7
  have hl7 : ((((leB t 4 ++ List.replicate 5 0).set 4 B0).set 5 B1).set 6 B2).length = 9 := by rw [hr7.len]
  obtain ⟨z3, c3⟩ : ∃ z : Int, w7.cell? ⟨w1.heap.size, 7, none⟩ = some (.int .u8 z) := ⟨_, hr7.cellAt 7 (by rw [hl7]; omega)⟩
  obtain ⟨z4, c4⟩ : ∃ z : Int, w7.cell? ⟨w1.heap.size, 8, none⟩ = some (.int .u8 z) := ⟨_, hr7.cellAt 8 (by rw [hl7]; omega)⟩
  have f3 := hr7.frozenAt 7
  have f4 := hr7.frozenAt 8
  have hr8 := (hr7.stored 7 B3).stored 8 B4
  rw [e3, e4] at hr8
  have HR8 := Go.Lib.hid hr8
  have HF7 := Go.Lib.hid hFw7
  clear hr7 hr8 hFw7 hl7 e3 e4 hE12
  go_wp2
  go_ret
  refine ⟨_, rfl, ?_, fresh_set (fresh_set HF7.out hsz _) hsz _⟩
  have h3 := three_more t d 4 (by decide) 2
  have h4 := two_more t d oo 4 (by decide)
  rw [← h3] at h4
  rw [HM.out, HD.out, ← h4, ← HB0.out, ← HB1.out, ← HB2.out, ← HB3.out, ← HB4.out]
  exact HR8.out

set_option maxRecDepth 100000 in
set_option maxHeartbeats 1000000 in
theorem encDTO_5 (n E s t oo : Nat) (o : Int) (r : Option Addr) (hn : n < 1000000000) (hE : E / 86400 ≤ 3652058) (hs : s ≤ 7) (hm : tsz s = 5) (ho0 : -840 ≤ o) (ho1 : o ≤ 840) (hoo : (oo : Int) = o % 18446744073709551616) (ht : (((E % 86400 : Nat) : Int) * 1000000000 + (n : Int)) / ((10 ^ (9 - s) : Nat) : Int) = (t : Int)) (w : World) (hP : Pw w) (hA : At w r (o * 60)) :
    Calls Tryd.prog 50 #[tv n E (.pointer r), .int .i64 (s : Int)] w fun e w' => ∃ v, e = .returned v ∧ Row w.heap.size w' v (leB t (tsz s) ++ leB (E / 86400) 3 ++ leB oo 2) ∧ Fresh w w' := by
  obtain ⟨i0, hi, hz0, hz1, hz2⟩ := info_parts info5
  have hF0 : Fresh w (w.alloc (.cells #[.int .u64 (n : Int), .int .i64 (E : Int), .pointer r] 51)) := (Kept.refl w _).alloc _
  have hT0 := T3.new w (.int .u64 (n : Int)) (.int .i64 (E : Int)) (.pointer r) 51
  have hsz0 : (w.alloc (.cells #[.int .u64 (n : Int), .int .i64 (E : Int), .pointer r] 51)).heap.size = w.heap.size + 1 := by simp
  obtain ⟨d, hd⟩ : ∃ d, E / 86400 = d := ⟨_, rfl⟩
  obtain ⟨sN, hsN⟩ : ∃ d, E % 86400 = d := ⟨_, rfl⟩
  have hsec : (sN : Int) ≤ 86400 := by omega
  rw [hd] at hE
  rw [hsN] at ht
  have HD := Go.Lib.hid hd
  have HSN := Go.Lib.hid hsN
  have HE := Go.Lib.hid hE
  have HN := Go.Lib.hid hn
  have HT := Go.Lib.hid ht
  have HOO := Go.Lib.hid hoo
  have HA := Go.Lib.hid hA
  have em : ((tsz s : Nat) : Int) = 5 := by rw [hm]; rfl
  have HM := Go.Lib.hid hm
  have HP := Go.Lib.hid hP
  clear hn hE ht hm hP hA hoo hd hsN
  go_enter Tryd.func50, Tryd.ntmps50
  go_wp2_with (fail)
  refine (tsz_any s hs _).mono ?_
  rintro e w0 ⟨rfl, rfl⟩
  rw [em]
  clear em
  have hsz : w.heap.size ≤ (w.alloc (.cells #[.int .u64 (n : Int), .int .i64 (E : Int), .pointer r] 51)).heap.size := by omega
  have hF0' := hF0
  generalize (w.alloc (.cells #[.int .u64 (n : Int), .int .i64 (E : Int), .pointer r] 51)) = w1 at *
  clear hF0
  have HSZ := Go.Lib.hid hsz0
  clear hsz0
  go_wp2_with (at_make; refine wpList_make_full _ rfl _ _ 23 rfl w.heap.size 5 i0 (.int .u8 0) 1 Tryd.underlying23 hi hz0 hz1 .i64 .i64 _ _ 10 rfl rfl rfl rfl (by rw [hz2]; omega) (by unfold maxLen; omega) hsz ?_; intro w2 hown hgr; have hr2 : Row w.heap.size w2 (.slice (some ⟨w1.heap.size, 0, none⟩) 10 10) (List.replicate 10 0) := RowK.of_own hown (by rw [Nat.mul_one]; show (madeCells #[.int .u8 0] _).toList = _; rw [toList_madeCells_one]; simp [ints]) rfl; have hF3 : Fresh w1 w2 := (Kept.of_grown hgr).mono (fun _ _ h => by cases h); have HR := Go.Lib.hid hr2; have HF := Go.Lib.hid (hF0'.fresh hF3); have HTT := Go.Lib.hid (hT0.fresh hF3); clear hr2 hown hgr hF3)
  clear hT0
  go_region_held3 (fun w' => w'.cell? ⟨w.heap.size, 0, none⟩ = some (.int .u64 (n : Int)) ∧ w'.cell? ⟨w.heap.size, 1, none⟩ = some (.int .i64 (E : Int)) ∧ w'.cell? ⟨w.heap.size, 2, none⟩ = some (.pointer r) ∧ Fresh w2 w')
    (first | exact TS.start HTT.out | exact TS.same (by assumption) | exact TS.fresh (by assumption) (by assumption))
    (first
      | (go_at_call 57; refine (utc_f _).mono ?_; rintro e w' ⟨q, rfl, hq, hF⟩)
      | (go_at_call 41; refine (In_any n E _ true r (by have := HN.out; omega) _ hq).mono ?_; rintro e w' ⟨rfl, hF⟩; rw [show plc true q = .pointer none from rfl])
      | (go_at_call 54; refine (dt2_at n E d sN HD.out HSN.out HN.out HE.out _).mono ?_; rintro e w' ⟨rfl, hF⟩))
  rename_i hA1
  have hF4 := hA1.2.2.2
  have hr4 := HR.out.fresh hF4
  have hT4 := HTT.out.fresh hF4
  have hFw4 := HF.out.fresh hF4
  clear hA1 hF4
  have hsec0 : (0 : Int) ≤ (sN : Int) := Int.natCast_nonneg _
  have hn0 : (0 : Int) ≤ (n : Int) := Int.natCast_nonneg _
  have hn1 : (n : Int) < 1000000000 := by have := HN.out; omega
  have hE1 := HE.out
  have hE12 : E ≤ 1000000000000 := by have := HD.out; omega
  have HE12 := Go.Lib.hid hE12
  clear hE12
  obtain ⟨B0, hB0⟩ : ∃ B : Nat, B = d % 256 := ⟨_, rfl⟩
  obtain ⟨B1, hB1⟩ : ∃ B : Nat, B = d / 256 % 256 := ⟨_, rfl⟩
  obtain ⟨B2, hB2⟩ : ∃ B : Nat, B = d / 65536 % 256 := ⟨_, rfl⟩
  obtain ⟨B3, hB3⟩ : ∃ B : Nat, B = oo % 256 := ⟨_, rfl⟩
  obtain ⟨B4, hB4⟩ : ∃ B : Nat, B = oo / 256 % 256 := ⟨_, rfl⟩
  have e0 : (B0 : Int) = (d : Int) % 256 := by rw [hB0]; rfl
  have e1 : (B1 : Int) = (d : Int) / 256 % 256 := by rw [hB1]; exact nat_div_mod _ _ _
  have e2 : (B2 : Int) = (d : Int) / 65536 := by rw [hB2, nat_div_mod]; exact div_small _ (Int.natCast_nonneg _) (by omega)
  have e3 := off_low o oo B3 HOO.out hB3
  have e4 := off_high o oo B4 HOO.out hB4
  have hD0 : (0 : Int) ≤ (d : Int) := Int.natCast_nonneg _
  have hD1 : (d : Int) ≤ 3652058 := by omega
  have HB0 := Go.Lib.hid hB0
  have HB1 := Go.Lib.hid hB1
  have HB2 := Go.Lib.hid hB2
  have HB3 := Go.Lib.hid hB3
  have HB4 := Go.Lib.hid hB4
  clear hB0 hB1 hB2 hB3 hB4 hE1 HE
  generalize (d : Int) = T at *
  generalize hSS : (sN : Int) = sec at *
  generalize hNN : (n : Int) = NN at *
  have HNN := Go.Lib.hid hNN
  clear hNN hSS
  go_wp2_with (fail)
  refine (encTime_any s t sec NN hs hsec0 hsec hn0 hn1 HT.out w.heap.size w1.heap.size 10 10 (List.replicate 10 0) _ hr4 (by rw [HM.out]; decide) (HP.out.fresh hFw4)).mono ?_
  rintro e w5 ⟨rfl, hr5, hK5⟩
  have hq5 := timed_eq s t 5
  rw [HM.out] at hq5
  rw [show List.replicate 10 0 = List.replicate (5 + 5) 0 from rfl, hq5] at hr5
  have hl : (leB t 5 ++ List.replicate 5 0).length = 10 := by rw [List.length_append, leB_length, List.length_replicate]
  have hT5 := hT4.kept hK5 (by have := HSZ.out; omega)
  have hFw5 := hFw4.trans hK5 (fun k hk e => by omega)
  clear hT4 hFw4 hK5 hq5 hr4
  obtain ⟨z0, c0⟩ : ∃ z : Int, w5.cell? ⟨w1.heap.size, 5, none⟩ = some (.int .u8 z) := ⟨_, hr5.cellAt 5 (by rw [hl]; omega)⟩
  obtain ⟨z1, c1⟩ : ∃ z : Int, w5.cell? ⟨w1.heap.size, 6, none⟩ = some (.int .u8 z) := ⟨_, hr5.cellAt 6 (by rw [hl]; omega)⟩
  obtain ⟨z2, c2⟩ : ∃ z : Int, w5.cell? ⟨w1.heap.size, 7, none⟩ = some (.int .u8 z) := ⟨_, hr5.cellAt 7 (by rw [hl]; omega)⟩
  have f0 := hr5.frozenAt 5
  have f1 := hr5.frozenAt 6
  have f2 := hr5.frozenAt 7
  have hr6 := ((hr5.stored 5 B0).stored 6 B1).stored 7 B2
  have hT6 := hT5.kept ((((Kept.refl w5 (fun k => k = w1.heap.size)).setCell (p := ⟨w1.heap.size, 5, none⟩) (.inl rfl) (.int .u8 (B0 : Int))).setCell (p := ⟨w1.heap.size, 6, none⟩) (.inl rfl) (.int .u8 (B1 : Int))).setCell (p := ⟨w1.heap.size, 7, none⟩) (.inl rfl) (.int .u8 (B2 : Int))) (by have := HSZ.out; omega)
  have hFw6 : Fresh w (((w5.setCell ⟨w1.heap.size, 5, none⟩ (.int .u8 (B0 : Int))).setCell ⟨w1.heap.size, 6, none⟩ (.int .u8 (B1 : Int))).setCell ⟨w1.heap.size, 7, none⟩ (.int .u8 (B2 : Int))) := fresh_set (fresh_set (fresh_set hFw5 hsz _) hsz _) hsz _
  rw [e0, e1, e2] at hr6 hT6 hFw6
  have HR6 := Go.Lib.hid hr6
  have HT6 := Go.Lib.hid hT6
  have HF6 := Go.Lib.hid hFw6
  clear hr5 hr6 hl e0 e1 e2 hT5 hT6 hFw5 hFw6
  go_upto_region 8 with (fail)
  generalize hW6 : (((w5.setCell ⟨w1.heap.size, 5, none⟩ (.int .u8 (T % 256))).setCell ⟨w1.heap.size, 6, none⟩ (.int .u8 (T / 256 % 256))).setCell ⟨w1.heap.size, 7, none⟩ (.int .u8 (T / 65536))) = w6 at *
  clear c0 c1 c2 f0 f1 f2 hW6 hq
  obtain ⟨c0, c1, c2, f0, f1, f2⟩ := HT6.out
  rw [← HNN.out] at c0
  have hn2 : n < 1073741824 := by have := HN.out; omega
  have hE12 := HE12.out
  have hdiv : (o * 60).tdiv 60 = o := Int.mul_tdiv_cancel o (by decide)
  go_wp2_with (fail)
  refine (Zone_any n E (o * 60) r hn2 hE12 _ (HA.out.fresh HF6.out)).mono ?_
  rintro e w7 ⟨⟨nm, rfl⟩, hF7⟩
  clear c0 c1 c2 f0 f1 f2
  have hr7 := HR6.out.fresh hF7
  have hFw7 := HF6.out.fresh hF7
  have hl7 : ((((leB t 5 ++ List.replicate 5 0).set 5 B0).set 6 B1).set 7 B2).length = 10 := by rw [hr7.len]
  obtain ⟨z3, c3⟩ : ∃ z : Int, w7.cell? ⟨w1.heap.size, 8, none⟩ = some (.int .u8 z) := ⟨_, hr7.cellAt 8 (by rw [hl7]; omega)⟩
  obtain ⟨z4, c4⟩ : ∃ z : Int, w7.cell? ⟨w1.heap.size, 9, none⟩ = some (.int .u8 z) := ⟨_, hr7.cellAt 9 (by rw [hl7]; omega)⟩
  have f3 := hr7.frozenAt 8
  have f4 := hr7.frozenAt 9
  have hr8 := (hr7.stored 8 B3).stored 9 B4
  rw [e3, e4] at hr8
  have HR8 := Go.Lib.hid hr8
  have HF7 := Go.Lib.hid hFw7
  clear hr7 hr8 hFw7 hl7 e3 e4 hE12
  go_wp2
  go_ret
  refine ⟨_, rfl, ?_, fresh_set (fresh_set HF7.out hsz _) hsz _⟩
  have h3 := three_more t d 5 (by decide) 2
  have h4 := two_more t d oo 5 (by decide)
  rw [← h3] at h4
  rw [HM.out, HD.out, ← h4, ← HB0.out, ← HB1.out, ← HB2.out, ← HB3.out, ← HB4.out]
  exact HR8.out

theorem encDTO_any (n E s t oo : Nat) (o : Int) (r : Option Addr) (hn : n < 1000000000) (hE : E / 86400 ≤ 3652058) (hs : s ≤ 7) (ho0 : -840 ≤ o) (ho1 : o ≤ 840) (hoo : (oo : Int) = o % 18446744073709551616) (ht : (((E % 86400 : Nat) : Int) * 1000000000 + (n : Int)) / ((10 ^ (9 - s) : Nat) : Int) = (t : Int)) (w : World) (hP : Pw w) (hA : At w r (o * 60)) :
    Calls Tryd.prog 50 #[tv n E (.pointer r), .int .i64 (s : Int)] w fun e w' => ∃ v, e = .returned v ∧ Row w.heap.size w' v (leB t (tsz s) ++ leB (E / 86400) 3 ++ leB oo 2) ∧ Fresh w w' := by
  rcases tsz_cases s with hm | hm | hm
  · exact encDTO_3 n E s t oo o r hn hE hs hm ho0 ho1 hoo ht w hP hA
  · exact encDTO_4 n E s t oo o r hn hE hs hm ho0 ho1 hoo ht w hP hA
  · exact encDTO_5 n E s t oo o r hn hE hs hm ho0 ho1 hoo ht w hP hA
end Go.Proofs.YtahcaoenddapoaaDoor
