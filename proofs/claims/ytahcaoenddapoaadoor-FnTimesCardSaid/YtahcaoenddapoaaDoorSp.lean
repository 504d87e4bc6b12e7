/- The reference's side of dates and times: unit, clock, day, ProperCell. (Printed by gensp.py.) -/
import Derived.Test.YtahcaoenddapoaaDoorImp2
namespace Go.Proofs.YtahcaoenddapoaaDoor
open Go.RowKit

set_option maxRecDepth 100000 in
theorem clock_any (s : Nat) (hs : s ≤ 7) (w : World) : Calls Tryd.prog 12 #[.int .i64 (s : Int)] w fun e w' => e = .returned (.int .i64 (tsz s : Int)) ∧ w' = w := by
  unfold tsz
  go_enter Tryd.func12, Tryd.ntmps12
  by_cases h2 : s ≤ 2
  · have h2' : (s : Int) ≤ 2 := by omega
    rw [if_pos h2]
    go_wp2
    go_ret
    simp
  · have h2' : ¬ (s : Int) ≤ 2 := by omega
    rw [if_neg h2]
    by_cases h4 : s ≤ 4
    · have h4' : (s : Int) ≤ 4 := by omega
      rw [if_pos h4]
      go_wp2
      go_ret
      simp
    · have h4' : ¬ (s : Int) ≤ 4 := by omega
      rw [if_neg h4]
      go_wp2
      go_ret
      simp

theorem pow_step (j : Nat) (h : j < 7) : (10 ^ (9 - j) : Nat) = 10 * 10 ^ (9 - (j + 1)) := by
  rw [← Nat.pow_succ']
  congr 1
  omega

theorem pow_bound (j : Nat) : (10 ^ (9 - j) : Nat) ≤ 1000000000 := by
  have : (10 : Nat) ^ (9 - j) ≤ 10 ^ 9 := Nat.pow_le_pow_right (by decide) (by omega)
  simpa using this

/-- A unit of a scale, as a whole number. -/
def uni (j : Nat) : Int := ((10 ^ (9 - j) : Nat) : Int)
theorem uni_step (j : Nat) (h : j < 7) : uni j / 10 = uni (j + 1) := by have := pow_step j h; unfold uni; omega
theorem uni_bound (j : Nat) : uni j ≤ 1000000000 := by have := pow_bound j; unfold uni; omega
theorem uni_pos (j : Nat) : 0 < uni j := by have := Nat.pow_pos (n := 9 - j) (show 0 < 10 by decide); unfold uni; omega

set_option maxRecDepth 100000 in
theorem unit_any (s : Nat) (hs : s ≤ 7) (w : World) : Calls Tryd.prog 17 #[.int .i64 (s : Int)] w fun e w' => e = .returned (.int .i64 (uni s)) ∧ w' = w := by
  go_enter Tryd.func17, Tryd.ntmps17
  go_wp2_with (fail)
  go_loop [3, 5] (fun n i => ∃ j : Nat, j ≤ s ∧ i = .int .i64 (j : Int) ∧ n = .int .i64 (uni j)) (fun _ i => s - (intOf i).toNat)
  case atStart => exact ⟨0, by omega, rfl, rfl⟩
  case round =>
    obtain ⟨j, hj, rfl, rfl⟩ := hrel
    by_cases hlt : j < s
    · have hst := uni_step j (by omega)
      have hb := uni_bound j
      have h0 := uni_pos j
      have hlt' : (j : Int) < (s : Int) := by omega
      have HS := Go.Lib.hid hst
      clear hst
      generalize uni j = V at *
      go_wp2
      go_round
      case rel => exact ⟨j + 1, by omega, by go_num, by rw [HS.out]⟩
      case measure => simp [intOf]; omega
    · obtain rfl : j = s := by omega
      go_wp2
      go_ret
      simp

/-- Whether nanoseconds are of a day, and a multiple of a unit. -/
def dayB (N u : Int) : Bool := decide (0 ≤ N ∧ N < 86400000000000 ∧ N % u = 0)

set_option maxRecDepth 100000 in
theorem day_any (N u : Int) (hu : 0 < u) (hu1 : u ≤ 1000000000) (w : World) : Calls Tryd.prog 15 #[.int .i64 N, .int .i64 u] w fun e w' => e = .returned (.bool (dayB N u)) ∧ w' = w := by
  have hune : u ≠ 0 := by omega
  by_cases h0 : 0 ≤ N
  · by_cases h1 : N < 86400000000000
    · by_cases h2 : N % u = 0
      · have hd : dayB N u = true := decide_eq_true ⟨h0, h1, h2⟩
        have ht : N.tmod u = 0 := by rw [Int.tmod_eq_emod_of_nonneg h0]; exact h2
        rw [hd]
        clear hd h2
        go_enter Tryd.func15, Tryd.ntmps15
        go_wp2
        go_ret
        simp
      · have hd : dayB N u = false := decide_eq_false (fun h => h2 h.2.2)
        have ht : (N.tmod u == 0) = false := by rw [Int.tmod_eq_emod_of_nonneg h0]; simpa using h2
        have ht2 : ¬ N.tmod u = 0 := by rw [Int.tmod_eq_emod_of_nonneg h0]; exact h2
        have H2 := Go.Lib.hid h2
        rw [hd]
        clear hd h2
        go_enter Tryd.func15, Tryd.ntmps15
        go_wp2
        go_ret
        simpa using H2.out
    · have hd : dayB N u = false := decide_eq_false (fun h => h1 h.2.1)
      rw [hd]
      clear hd
      go_enter Tryd.func15, Tryd.ntmps15
      go_wp2
      go_ret
      simp
  · have hd : dayB N u = false := decide_eq_false (fun h => h0 h.1)
    rw [hd]
    clear hd
    go_enter Tryd.func15, Tryd.ntmps15
    go_wp2
    go_ret
    simp

theorem day_at (N u : Int) (b : Bool) (h : dayB N u = b) (hu : 0 < u) (hu1 : u ≤ 1000000000) (w : World) : Calls Tryd.prog 15 #[.int .i64 N, .int .i64 u] w fun e w' => e = .returned (.bool b) ∧ w' = w := by
  subst h
  exact day_any N u hu hu1 w

/-- A column of a kind with a scale; a value of a day, nanoseconds and an offset. -/
@[reducible] def colv (k sz s : Int) : Value := .agg #[.int .i64 0, .int .i64 k, .int .i64 sz, .int .i64 0, .int .i64 s, .string ⟨#[]⟩]
@[reducible] def cellv (d N o : Int) : Value := .agg #[.bool false, .int .i64 0, .float .f64 0, .string ⟨#[]⟩, .slice none 0 0, .string ⟨#[]⟩, .int .i64 d, .int .i64 N, .int .i64 o]

set_option maxRecDepth 100000 in
set_option maxHeartbeats 1000000 in
theorem proper43_good (d N o sz : Int) (s : Nat) (hs : s ≤ 7) (h1 : 1 ≤ d) (h2 : d ≤ 3652057) (h3 : dayB N (uni s) = true) (h4 : -840 ≤ o) (h5 : o ≤ 840) (w : World) : Calls Tryd.prog 5 #[colv 43 sz (s : Int), cellv d N o] w fun e w' => e = .returned (.bool true) ∧ Fresh w w' := by
  have hund : undef = Value.tuple #[] := rfl
  have h10 : 0 ≤ d := by omega
  have h20 : d ≤ 3652058 := by omega
  have hF0 : Fresh w ((w.alloc (.cells #[.int .i64 0, .int .i64 43, .int .i64 sz, .int .i64 0, .int .i64 (s : Int), .string ⟨#[]⟩] 27)).alloc (.cells #[.bool false, .int .i64 0, .float .f64 0, .string ⟨#[]⟩, .slice none 0 0, .string ⟨#[]⟩, .int .i64 d, .int .i64 N, .int .i64 o] 25)) := ((Kept.refl w _).alloc _).alloc _
  have HF0 := Go.Lib.hid hF0
  clear hF0
  go_enter Tryd.func5, Tryd.ntmps5
  go_upto_region 46 with (fail)
  go_quiet (first | (go_at_call 17; refine Calls.quiet_of_same (unit_any s hs _)) | (go_at_call 15; refine Calls.quiet_of_same (day_at N (uni s) _ h3 (uni_pos s) (uni_bound s) _)))
  go_wp2
  go_ret
  exact ⟨rfl, (HF0.out).drewN _⟩

set_option maxRecDepth 100000 in
set_option maxHeartbeats 1000000 in
theorem proper43_hi (d N o sz : Int) (s : Nat) (hs : s ≤ 7) (h1 : 1 ≤ d) (h2 : d ≤ 3652057) (h3 : dayB N (uni s) = true) (h4 : -840 ≤ o) (h5 : ¬ o ≤ 840) (w : World) : Calls Tryd.prog 5 #[colv 43 sz (s : Int), cellv d N o] w fun e w' => e = .returned (.bool false) ∧ Fresh w w' := by
  have hund : undef = Value.tuple #[] := rfl
  have h10 : 0 ≤ d := by omega
  have h20 : d ≤ 3652058 := by omega
  have hF0 : Fresh w ((w.alloc (.cells #[.int .i64 0, .int .i64 43, .int .i64 sz, .int .i64 0, .int .i64 (s : Int), .string ⟨#[]⟩] 27)).alloc (.cells #[.bool false, .int .i64 0, .float .f64 0, .string ⟨#[]⟩, .slice none 0 0, .string ⟨#[]⟩, .int .i64 d, .int .i64 N, .int .i64 o] 25)) := ((Kept.refl w _).alloc _).alloc _
  have HF0 := Go.Lib.hid hF0
  clear hF0
  go_enter Tryd.func5, Tryd.ntmps5
  go_upto_region 46 with (fail)
  go_quiet (first | (go_at_call 17; refine Calls.quiet_of_same (unit_any s hs _)) | (go_at_call 15; refine Calls.quiet_of_same (day_at N (uni s) _ h3 (uni_pos s) (uni_bound s) _)))
  go_wp2
  go_ret
  exact ⟨rfl, (HF0.out).drewN _⟩

set_option maxRecDepth 100000 in
set_option maxHeartbeats 1000000 in
theorem proper43_lo (d N o sz : Int) (s : Nat) (hs : s ≤ 7) (h1 : 1 ≤ d) (h2 : d ≤ 3652057) (h3 : dayB N (uni s) = true) (h4 : ¬ -840 ≤ o) (w : World) : Calls Tryd.prog 5 #[colv 43 sz (s : Int), cellv d N o] w fun e w' => e = .returned (.bool false) ∧ Fresh w w' := by
  have hund : undef = Value.tuple #[] := rfl
  have h10 : 0 ≤ d := by omega
  have h20 : d ≤ 3652058 := by omega
  have hF0 : Fresh w ((w.alloc (.cells #[.int .i64 0, .int .i64 43, .int .i64 sz, .int .i64 0, .int .i64 (s : Int), .string ⟨#[]⟩] 27)).alloc (.cells #[.bool false, .int .i64 0, .float .f64 0, .string ⟨#[]⟩, .slice none 0 0, .string ⟨#[]⟩, .int .i64 d, .int .i64 N, .int .i64 o] 25)) := ((Kept.refl w _).alloc _).alloc _
  have HF0 := Go.Lib.hid hF0
  clear hF0
  go_enter Tryd.func5, Tryd.ntmps5
  go_upto_region 46 with (fail)
  go_quiet (first | (go_at_call 17; refine Calls.quiet_of_same (unit_any s hs _)) | (go_at_call 15; refine Calls.quiet_of_same (day_at N (uni s) _ h3 (uni_pos s) (uni_bound s) _)))
  go_wp2
  go_ret
  exact ⟨rfl, (HF0.out).drewN _⟩

set_option maxRecDepth 100000 in
set_option maxHeartbeats 1000000 in
theorem proper43_day (d N o sz : Int) (s : Nat) (hs : s ≤ 7) (h1 : 1 ≤ d) (h2 : d ≤ 3652057) (h3 : dayB N (uni s) = false) (w : World) : Calls Tryd.prog 5 #[colv 43 sz (s : Int), cellv d N o] w fun e w' => e = .returned (.bool false) ∧ Fresh w w' := by
  have hund : undef = Value.tuple #[] := rfl
  have h10 : 0 ≤ d := by omega
  have h20 : d ≤ 3652058 := by omega
  have hF0 : Fresh w ((w.alloc (.cells #[.int .i64 0, .int .i64 43, .int .i64 sz, .int .i64 0, .int .i64 (s : Int), .string ⟨#[]⟩] 27)).alloc (.cells #[.bool false, .int .i64 0, .float .f64 0, .string ⟨#[]⟩, .slice none 0 0, .string ⟨#[]⟩, .int .i64 d, .int .i64 N, .int .i64 o] 25)) := ((Kept.refl w _).alloc _).alloc _
  have HF0 := Go.Lib.hid hF0
  clear hF0
  go_enter Tryd.func5, Tryd.ntmps5
  go_upto_region 46 with (fail)
  go_quiet (first | (go_at_call 17; refine Calls.quiet_of_same (unit_any s hs _)) | (go_at_call 15; refine Calls.quiet_of_same (day_at N (uni s) _ h3 (uni_pos s) (uni_bound s) _)))
  go_wp2
  go_ret
  exact ⟨rfl, (HF0.out).drewN _⟩

set_option maxRecDepth 100000 in
set_option maxHeartbeats 1000000 in
theorem proper43_neg (d N o sz : Int) (s : Nat) (h1 : d < 0) (w : World) : Calls Tryd.prog 5 #[colv 43 sz (s : Int), cellv d N o] w fun e w' => e = .returned (.bool false) ∧ Fresh w w' := by
  have hund : undef = Value.tuple #[] := rfl
  have h10 : ¬ 0 ≤ d := by omega
  have h11 : ¬ 1 ≤ d := by omega
  have hF0 : Fresh w ((w.alloc (.cells #[.int .i64 0, .int .i64 43, .int .i64 sz, .int .i64 0, .int .i64 (s : Int), .string ⟨#[]⟩] 27)).alloc (.cells #[.bool false, .int .i64 0, .float .f64 0, .string ⟨#[]⟩, .slice none 0 0, .string ⟨#[]⟩, .int .i64 d, .int .i64 N, .int .i64 o] 25)) := ((Kept.refl w _).alloc _).alloc _
  have HF0 := Go.Lib.hid hF0
  clear hF0
  go_enter Tryd.func5, Tryd.ntmps5
  go_upto_region 46 with (fail)
  go_quiet (fail)
  go_wp2
  go_ret
  exact ⟨rfl, (HF0.out).drewN _⟩

set_option maxRecDepth 100000 in
set_option maxHeartbeats 1000000 in
theorem proper43_nil (d N o sz : Int) (s : Nat) (h1 : d = 0) (w : World) : Calls Tryd.prog 5 #[colv 43 sz (s : Int), cellv d N o] w fun e w' => e = .returned (.bool false) ∧ Fresh w w' := by
  have hund : undef = Value.tuple #[] := rfl
  have h10 : 0 ≤ d := by omega
  have h11 : ¬ 1 ≤ d := by omega
  have h12 : d ≤ 3652058 := by omega
  clear h1
  have hF0 : Fresh w ((w.alloc (.cells #[.int .i64 0, .int .i64 43, .int .i64 sz, .int .i64 0, .int .i64 (s : Int), .string ⟨#[]⟩] 27)).alloc (.cells #[.bool false, .int .i64 0, .float .f64 0, .string ⟨#[]⟩, .slice none 0 0, .string ⟨#[]⟩, .int .i64 d, .int .i64 N, .int .i64 o] 25)) := ((Kept.refl w _).alloc _).alloc _
  have HF0 := Go.Lib.hid hF0
  clear hF0
  go_enter Tryd.func5, Tryd.ntmps5
  go_upto_region 46 with (fail)
  go_quiet (fail)
  go_wp2
  go_ret
  exact ⟨rfl, (HF0.out).drewN _⟩

set_option maxRecDepth 100000 in
set_option maxHeartbeats 1000000 in
theorem proper43_last (d N o sz : Int) (s : Nat) (h1 : d = 3652058) (w : World) : Calls Tryd.prog 5 #[colv 43 sz (s : Int), cellv d N o] w fun e w' => e = .returned (.bool false) ∧ Fresh w w' := by
  have hund : undef = Value.tuple #[] := rfl
  have h10 : 0 ≤ d := by omega
  have h11 : 1 ≤ d := by omega
  have h12 : d ≤ 3652058 := by omega
  have h13 : ¬ d ≤ 3652057 := by omega
  clear h1
  have hF0 : Fresh w ((w.alloc (.cells #[.int .i64 0, .int .i64 43, .int .i64 sz, .int .i64 0, .int .i64 (s : Int), .string ⟨#[]⟩] 27)).alloc (.cells #[.bool false, .int .i64 0, .float .f64 0, .string ⟨#[]⟩, .slice none 0 0, .string ⟨#[]⟩, .int .i64 d, .int .i64 N, .int .i64 o] 25)) := ((Kept.refl w _).alloc _).alloc _
  have HF0 := Go.Lib.hid hF0
  clear hF0
  go_enter Tryd.func5, Tryd.ntmps5
  go_upto_region 46 with (fail)
  go_quiet (fail)
  go_wp2
  go_ret
  exact ⟨rfl, (HF0.out).drewN _⟩

set_option maxRecDepth 100000 in
set_option maxHeartbeats 1000000 in
theorem proper43_far (d N o sz : Int) (s : Nat) (h1 : 3652058 < d) (w : World) : Calls Tryd.prog 5 #[colv 43 sz (s : Int), cellv d N o] w fun e w' => e = .returned (.bool false) ∧ Fresh w w' := by
  have hund : undef = Value.tuple #[] := rfl
  have h10 : 0 ≤ d := by omega
  have h11 : 1 ≤ d := by omega
  have h12 : ¬ d ≤ 3652058 := by omega
  have h13 : ¬ d ≤ 3652057 := by omega
  have hF0 : Fresh w ((w.alloc (.cells #[.int .i64 0, .int .i64 43, .int .i64 sz, .int .i64 0, .int .i64 (s : Int), .string ⟨#[]⟩] 27)).alloc (.cells #[.bool false, .int .i64 0, .float .f64 0, .string ⟨#[]⟩, .slice none 0 0, .string ⟨#[]⟩, .int .i64 d, .int .i64 N, .int .i64 o] 25)) := ((Kept.refl w _).alloc _).alloc _
  have HF0 := Go.Lib.hid hF0
  clear hF0
  go_enter Tryd.func5, Tryd.ntmps5
  go_upto_region 46 with (fail)
  go_quiet (fail)
  go_wp2
  go_ret
  exact ⟨rfl, (HF0.out).drewN _⟩

/-- What ProperCell's answer tells, at a column of dates and times at an offset. -/
def Tells43 (d N o : Int) (s : Nat) (e : Ending) : Prop := ∃ b, e = .returned (.bool b) ∧ (b = true → 1 ≤ d ∧ d ≤ 3652057 ∧ dayB N (uni s) = true ∧ -840 ≤ o ∧ o ≤ 840)

theorem proper43_any (d N o sz : Int) (s : Nat) (hs : s ≤ 7) (w : World) : Calls Tryd.prog 5 #[colv 43 sz (s : Int), cellv d N o] w fun e w' => Tells43 d N o s e ∧ Fresh w w' := by
  have no : ∀ (e : Ending) (w' : World), (e = .returned (.bool false) ∧ Fresh w w') → (Tells43 d N o s e ∧ Fresh w w') := fun e w' h => ⟨⟨false, h.1, fun h => by cases h⟩, h.2⟩
  by_cases a : d < 0
  · exact (proper43_neg d N o sz s a w).mono no
  by_cases b : d = 0
  · exact (proper43_nil d N o sz s b w).mono no
  by_cases c : 3652058 < d
  · exact (proper43_far d N o sz s c w).mono no
  by_cases c2 : d = 3652058
  · exact (proper43_last d N o sz s c2 w).mono no
  have h1 : 1 ≤ d := by omega
  have h2 : d ≤ 3652057 := by omega
  cases h3 : dayB N (uni s) with
  | false => exact (proper43_day d N o sz s hs h1 h2 h3 w).mono no
  | true =>
    by_cases h4 : -840 ≤ o
    · by_cases h5 : o ≤ 840
      · exact (proper43_good d N o sz s hs h1 h2 h3 h4 h5 w).mono fun e w' h => ⟨⟨true, h.1, fun _ => ⟨h1, h2, h3, h4, h5⟩⟩, h.2⟩
      · exact (proper43_hi d N o sz s hs h1 h2 h3 h4 h5 w).mono no
    · exact (proper43_lo d N o sz s hs h1 h2 h3 h4 w).mono no
end Go.Proofs.YtahcaoenddapoaaDoor
