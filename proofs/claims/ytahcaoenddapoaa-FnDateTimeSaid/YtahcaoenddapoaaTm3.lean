/- Package time: the years and the clock of a moment. -/
import Derived.Test.YtahcaoenddapoaaTm2
import Derived.IntWalk
namespace Go.Proofs.Ytahcaoenddapoaa
open Go.RowKit

theorem tv_cell (w : World) (n E : Nat) (l : Value) (T : TypeId) (j : Nat) : (w.alloc (.cells #[.int .u64 (n : Int), .int .i64 (E : Int), l] T)).cell? ⟨w.heap.size, j, none⟩ = (#[Value.int .u64 (n : Int), .int .i64 (E : Int), l])[j]? := cell_of_row _ _ j _ _ _ (heap_alloc_new _ _)

theorem wrap_both (x : Int) (h1 : 0 ≤ x) (h2 : x ≤ 18446744073709551615) : IntKind.u64.wrap (wrap64 x) = x := by rw [IntKind.wrap_u64]; unfold wrap64; omega

/-- The seconds of a moment, counted from the absolute one. -/
def abS (E : Nat) : Nat := E + 9223371966606163200

set_option maxRecDepth 100000 in
theorem absSec_any (n E : Nat) (hn : n < 1073741824) (hE : E ≤ 1000000000000) (w : World) : Calls Try.prog 147 #[tv n E (.pointer none)] w fun e w' => e = .returned (.int .u64 (abS E : Int)) ∧ Fresh w w' := by
  have h0 : (E : Int) - 62135596800 + 9223372028741760000 = (abS E : Int) := by unfold abS; omega
  have c0 := tv_cell w n E (.pointer none) 100 0
  have c1 := tv_cell w n E (.pointer none) 100 1
  have c2 := tv_cell w n E (.pointer none) 100 2
  have hF0 : Fresh w (w.alloc (.cells #[.int .u64 (n : Int), .int .i64 (E : Int), .pointer none] 100)) := (Kept.refl w _).alloc _
  have H0 := Go.Lib.hid h0
  clear h0
  go_enter Try.func147, Try.ntmps147
  go_wp2_with (fail)
  refine (get_any _).mono ?_
  rintro e w1 ⟨rfl, rfl⟩
  generalize hW : (w.alloc (.cells #[.int .u64 (n : Int), .int .i64 (E : Int), .pointer none] 100)) = W at *
  have hF1 : Fresh W (W.alloc utcObj) := (Kept.refl W _).alloc _
  have d0 := hF1.held (p := ⟨w.heap.size, 0, none⟩) c0 (fun h => h)
  have d1 := hF1.held (p := ⟨w.heap.size, 1, none⟩) c1 (fun h => h)
  have u0 := utc_cell W 0
  have hF2 := hF0.fresh hF1
  generalize (W.alloc utcObj) = W1 at *
  go_wp2_with (fail)
  refine (unixSec_any w.heap.size n E hn hE _ d0 d1).mono ?_
  rintro e w1 ⟨rfl, rfl⟩
  go_wp2
  go_ret
  refine ⟨?_, hF2⟩
  have h := H0.out
  have hs1 : (0 : Int) ≤ (abS E : Int) := Int.natCast_nonneg _
  have hs2 : (abS E : Int) ≤ 18446744073709551615 := by unfold abS; omega
  show Ending.returned (.int .u64 (IntKind.u64.wrap (wrap64 ((E : Int) - 62135596800 + 9223372028741760000)))) = _
  rw [h, wrap_both _ hs1 hs2]

/-- Day and second of it. -/
theorem abS_day (E : Nat) : abS E / 86400 = absD (E / 86400) := by unfold abS absD; omega
theorem abS_mod (E k : Nat) (hk : k = 60 ∨ k = 3600 ∨ k = 86400) : abS E % k = E % k := by unfold abS; rcases hk with rfl | rfl | rfl <;> omega
theorem cen_abs (n : Nat) : 2922770224 ≤ cen (absD n) := by unfold cen absD; omega

set_option maxRecDepth 100000 in
theorem Year_any (n E : Nat) (hn : n < 1073741824) (hE : E ≤ 400000000000) (w : World) : Calls Try.prog 110 #[tv n E (.pointer none)] w fun e w' => e = .returned (.int .i64 (yr (absD (E / 86400)) : Int)) ∧ Fresh w w' := by
  have hF0 : Fresh w (w.alloc (.cells #[.int .u64 (n : Int), .int .i64 (E : Int), .pointer none] 100)) := (Kept.refl w _).alloc _
  have hb : absD (E / 86400) ≤ 1000000000000000 := by unfold absD; omega
  go_enter Try.func110, Try.ntmps110
  go_wp2_with (fail)
  refine (absSec_any n E hn (by omega) _).mono ?_
  rintro e w1 ⟨rfl, hF1⟩
  go_wp2_with (fail)
  refine (days_any (abS E) (by unfold abS; omega) _).mono ?_
  rintro e w' ⟨rfl, rfl⟩
  rw [abS_day]
  go_wp2_with (fail)
  refine (split_any _ hb _).mono ?_
  rintro e w' ⟨rfl, rfl⟩
  go_wp2_with (fail)
  refine (janFeb_any _ _).mono ?_
  rintro e w' ⟨rfl, rfl⟩
  go_wp2_with (fail)
  refine (year_any _ hb (cen_abs _) _).mono ?_
  rintro e w' ⟨rfl, rfl⟩
  go_wp2
  go_ret
  exact ⟨rfl, hF0.fresh hF1⟩

set_option maxRecDepth 100000 in
theorem YearDay_any (n E : Nat) (hn : n < 1073741824) (hE : E ≤ 400000000000) (w : World) : Calls Try.prog 111 #[tv n E (.pointer none)] w fun e w' => e = .returned (.int .i64 (yd (absD (E / 86400)) : Int)) ∧ Fresh w w' := by
  have hF0 : Fresh w (w.alloc (.cells #[.int .u64 (n : Int), .int .i64 (E : Int), .pointer none] 100)) := (Kept.refl w _).alloc _
  have hb : absD (E / 86400) ≤ 1000000000000000 := by unfold absD; omega
  go_enter Try.func111, Try.ntmps111
  go_wp2_with (fail)
  refine (absSec_any n E hn (by omega) _).mono ?_
  rintro e w1 ⟨rfl, hF1⟩
  go_wp2_with (fail)
  refine (days_any (abS E) (by unfold abS; omega) _).mono ?_
  rintro e w' ⟨rfl, rfl⟩
  rw [abS_day]
  go_wp2_with (fail)
  refine (yearYday_any _ hb (cen_abs _) _).mono ?_
  rintro e w' ⟨rfl, rfl⟩
  go_wp2
  go_ret
  exact ⟨rfl, hF0.fresh hF1⟩

theorem nat_tmod (a k : Nat) : ((a : Int)).tmod (k : Int) = ((a % k : Nat) : Int) := rfl

set_option maxRecDepth 100000 in
theorem Second_any (n E : Nat) (hn : n < 1073741824) (hE : E ≤ 400000000000) (w : World) : Calls Try.prog 112 #[tv n E (.pointer none)] w fun e w' => e = .returned (.int .i64 ((E % 60 : Nat) : Int)) ∧ Fresh w w' := by
  have hF0 : Fresh w (w.alloc (.cells #[.int .u64 (n : Int), .int .i64 (E : Int), .pointer none] 100)) := (Kept.refl w _).alloc _
  have h1 : (abS E : Int) ≤ 18446744073709551615 := by unfold abS; omega
  have h2 : (abS E : Int) % 60 = ((E % 60 : Nat) : Int) := by rw [← abS_mod E 60 (.inl rfl)]; rfl
  have H2 := Go.Lib.hid h2
  clear h2
  go_enter Try.func112, Try.ntmps112
  go_wp2_with (fail)
  refine (absSec_any n E hn (by omega) _).mono ?_
  rintro e w1 ⟨rfl, hF1⟩
  generalize abS E = a at *
  go_wp2
  go_ret
  exact ⟨by rw [← H2.out]; rfl, hF0.fresh hF1⟩

set_option maxRecDepth 100000 in
theorem Minute_any (n E : Nat) (hn : n < 1073741824) (hE : E ≤ 400000000000) (w : World) : Calls Try.prog 113 #[tv n E (.pointer none)] w fun e w' => e = .returned (.int .i64 ((E % 3600 / 60 : Nat) : Int)) ∧ Fresh w w' := by
  have hF0 : Fresh w (w.alloc (.cells #[.int .u64 (n : Int), .int .i64 (E : Int), .pointer none] 100)) := (Kept.refl w _).alloc _
  have h1 : (abS E : Int) ≤ 18446744073709551615 := by unfold abS; omega
  have h2 : (abS E : Int) % 3600 / 60 = ((E % 3600 / 60 : Nat) : Int) := by rw [← abS_mod E 3600 (.inr (.inl rfl))]; rfl
  have H2 := Go.Lib.hid h2
  clear h2
  go_enter Try.func113, Try.ntmps113
  go_wp2_with (fail)
  refine (absSec_any n E hn (by omega) _).mono ?_
  rintro e w1 ⟨rfl, hF1⟩
  generalize abS E = a at *
  go_wp2
  go_ret
  exact ⟨by rw [← H2.out]; rfl, hF0.fresh hF1⟩

set_option maxRecDepth 100000 in
theorem Hour_any (n E : Nat) (hn : n < 1073741824) (hE : E ≤ 400000000000) (w : World) : Calls Try.prog 114 #[tv n E (.pointer none)] w fun e w' => e = .returned (.int .i64 ((E % 86400 / 3600 : Nat) : Int)) ∧ Fresh w w' := by
  have hF0 : Fresh w (w.alloc (.cells #[.int .u64 (n : Int), .int .i64 (E : Int), .pointer none] 100)) := (Kept.refl w _).alloc _
  have h1 : (abS E : Int) ≤ 18446744073709551615 := by unfold abS; omega
  have h2 : (abS E : Int) % 86400 / 3600 = ((E % 86400 / 3600 : Nat) : Int) := by rw [← abS_mod E 86400 (.inr (.inr rfl))]; rfl
  have H2 := Go.Lib.hid h2
  clear h2
  go_enter Try.func114, Try.ntmps114
  go_wp2_with (fail)
  refine (absSec_any n E hn (by omega) _).mono ?_
  rintro e w1 ⟨rfl, hF1⟩
  generalize abS E = a at *
  go_wp2
  go_ret
  exact ⟨by rw [← H2.out]; rfl, hF0.fresh hF1⟩

set_option maxRecDepth 100000 in
theorem Nanosecond_any (n E : Nat) (hn : n < 1073741824) (w : World) : Calls Try.prog 116 #[tv n E (.pointer none)] w fun e w' => e = .returned (.int .i64 (n : Int)) ∧ Fresh w w' := by
  have hF0 : Fresh w (w.alloc (.cells #[.int .u64 (n : Int), .int .i64 (E : Int), .pointer none] 100)) := (Kept.refl w _).alloc _
  have c0 := tv_cell w n E (.pointer none) 100 0
  go_enter Try.func116, Try.ntmps116
  go_wp2_with (fail)
  refine (nsec_any w.heap.size n hn _ c0).mono ?_
  rintro e w1 ⟨rfl, rfl⟩
  go_wp2
  go_ret
  exact ⟨rfl, hF0⟩

theorem gdays_int (y d : Nat) (hy : 1 ≤ y) (hy2 : y ≤ 20000) (hd : 1 ≤ d) (hd2 : d ≤ 1000) : (((y : Int) - 1) * 365 + ((y : Int) - 1) / 4 - ((y : Int) - 1) / 100 + ((y : Int) - 1) / 400 + (d : Int) - 1) = (gdays y d : Int) := by unfold gdays; omega

set_option maxRecDepth 100000 in
theorem gregorian_any (y d : Nat) (hy : 1 ≤ y) (hy2 : y ≤ 20000) (hd : 1 ≤ d) (hd2 : d ≤ 1000) (w : World) : Calls Try.prog 109 #[.int .i64 (y : Int), .int .i64 (d : Int)] w fun e w' => e = .returned (.int .i64 (gdays y d : Int)) ∧ w' = w := by
  have H := Go.Lib.hid (gdays_int y d hy hy2 hd hd2)
  have b1 : (1 : Int) ≤ (y : Int) := by omega
  have b2 : (y : Int) ≤ 20000 := by omega
  go_enter Try.func109, Try.ntmps109
  go_wp2
  go_ret
  exact ⟨by rw [← H.out]; rfl, rfl⟩
end Go.Proofs.Ytahcaoenddapoaa
