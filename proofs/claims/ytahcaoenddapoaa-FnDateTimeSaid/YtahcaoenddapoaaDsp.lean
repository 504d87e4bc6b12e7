/- The reference's side of the elder dates: day, ProperCell. (Printed by gendsp.py.) -/
import Derived.Test.YtahcaoenddapoaaIdt2
namespace Go.Proofs.Ytahcaoenddapoaa
open Go.RowKit

/-- Whether nanoseconds are of a day, and a multiple of a unit. -/
def dayB (N u : Int) : Bool := decide (0 ≤ N ∧ N < 86400000000000 ∧ N % u = 0)

set_option maxRecDepth 100000 in
theorem day_any (N u : Int) (hu : 0 < u) (hu1 : u ≤ 60000000000) (w : World) : Calls Try.prog 52 #[.int .i64 N, .int .i64 u] w fun e w' => e = .returned (.bool (dayB N u)) ∧ w' = w := by
  have hune : u ≠ 0 := by omega
  by_cases h0 : 0 ≤ N
  · by_cases h1 : N < 86400000000000
    · by_cases h2 : N % u = 0
      · have hd : dayB N u = true := decide_eq_true ⟨h0, h1, h2⟩
        have ht : N.tmod u = 0 := by rw [Int.tmod_eq_emod_of_nonneg h0]; exact h2
        rw [hd]
        clear hd h2
        go_enter Try.func52, Try.ntmps52
        go_wp2
        go_ret
        simp
      · have hd : dayB N u = false := decide_eq_false (fun h => h2 h.2.2)
        have ht : (N.tmod u == 0) = false := by rw [Int.tmod_eq_emod_of_nonneg h0]; simpa using h2
        have ht2 : ¬ N.tmod u = 0 := by rw [Int.tmod_eq_emod_of_nonneg h0]; exact h2
        have H2 := Go.Lib.hid h2
        rw [hd]
        clear hd h2
        go_enter Try.func52, Try.ntmps52
        go_wp2
        go_ret
        simpa using H2.out
    · have hd : dayB N u = false := decide_eq_false (fun h => h1 h.2.1)
      rw [hd]
      clear hd
      go_enter Try.func52, Try.ntmps52
      go_wp2
      go_ret
      simp
  · have hd : dayB N u = false := decide_eq_false (fun h => h0 h.1)
    rw [hd]
    clear hd
    go_enter Try.func52, Try.ntmps52
    go_wp2
    go_ret
    simp

/-- A column of a kind with a size; a value of a day and nanoseconds. -/
@[reducible] def colv (k sz s : Int) : Value := .agg #[.int .i64 0, .int .i64 k, .int .i64 sz, .int .i64 0, .int .i64 s, .string ⟨#[]⟩]
@[reducible] def cellv (d N o : Int) : Value := .agg #[.bool false, .int .i64 0, .float .f64 0, .string ⟨#[]⟩, .slice none 0 0, .string ⟨#[]⟩, .int .i64 d, .int .i64 N, .int .i64 o]

set_option maxRecDepth 100000 in
set_option maxHeartbeats 1000000 in
theorem p8_neg (d N : Int) (h1 : d < 0) (w : World) : Calls Try.prog 23 #[colv 111 8 0, cellv d N 0] w fun e w' => e = .returned (.bool (false)) ∧ Fresh w w' := by
  have hund : undef = Value.tuple #[] := rfl
  have h10 : ¬ 0 ≤ d := by omega
  have h11 : ¬ 639905 ≤ d := by omega
  have hF0 : Fresh w ((w.alloc (.cells #[.int .i64 0, .int .i64 111, .int .i64 8, .int .i64 0, .int .i64 0, .string ⟨#[]⟩] 46)).alloc (.cells #[.bool false, .int .i64 0, .float .f64 0, .string ⟨#[]⟩, .slice none 0 0, .string ⟨#[]⟩, .int .i64 d, .int .i64 N, .int .i64 0] 44)) := ((Kept.refl w _).alloc _).alloc _
  have HF0 := Go.Lib.hid hF0
  clear hF0
  go_enter Try.func23, Try.ntmps23
  go_wp2
  go_ret
  exact ⟨rfl, HF0.out⟩

set_option maxRecDepth 100000 in
set_option maxHeartbeats 1000000 in
theorem p8_lo (d N : Int) (h1 : 0 ≤ d) (h2 : d < 639905) (w : World) : Calls Try.prog 23 #[colv 111 8 0, cellv d N 0] w fun e w' => e = .returned (.bool (false)) ∧ Fresh w w' := by
  have hund : undef = Value.tuple #[] := rfl
  have h10 : d ≤ 3652058 := by omega
  have h11 : ¬ 639905 ≤ d := by omega
  have hF0 : Fresh w ((w.alloc (.cells #[.int .i64 0, .int .i64 111, .int .i64 8, .int .i64 0, .int .i64 0, .string ⟨#[]⟩] 46)).alloc (.cells #[.bool false, .int .i64 0, .float .f64 0, .string ⟨#[]⟩, .slice none 0 0, .string ⟨#[]⟩, .int .i64 d, .int .i64 N, .int .i64 0] 44)) := ((Kept.refl w _).alloc _).alloc _
  have HF0 := Go.Lib.hid hF0
  clear hF0
  go_enter Try.func23, Try.ntmps23
  go_wp2
  go_ret
  exact ⟨rfl, HF0.out⟩

set_option maxRecDepth 100000 in
set_option maxHeartbeats 1000000 in
theorem p8_far (d N : Int) (h1 : 3652058 < d) (w : World) : Calls Try.prog 23 #[colv 111 8 0, cellv d N 0] w fun e w' => e = .returned (.bool (false)) ∧ Fresh w w' := by
  have hund : undef = Value.tuple #[] := rfl
  have h10 : 0 ≤ d := by omega
  have h11 : ¬ d ≤ 3652058 := by omega
  have h12 : 639905 ≤ d := by omega
  have hF0 : Fresh w ((w.alloc (.cells #[.int .i64 0, .int .i64 111, .int .i64 8, .int .i64 0, .int .i64 0, .string ⟨#[]⟩] 46)).alloc (.cells #[.bool false, .int .i64 0, .float .f64 0, .string ⟨#[]⟩, .slice none 0 0, .string ⟨#[]⟩, .int .i64 d, .int .i64 N, .int .i64 0] 44)) := ((Kept.refl w _).alloc _).alloc _
  have HF0 := Go.Lib.hid hF0
  clear hF0
  go_enter Try.func23, Try.ntmps23
  go_wp2
  go_ret
  exact ⟨rfl, HF0.out⟩

set_option maxRecDepth 100000 in
set_option maxHeartbeats 1000000 in
theorem p8_mid (d N : Int) (h1 : 639905 ≤ d) (h2 : d ≤ 3652058) (w : World) : Calls Try.prog 23 #[colv 111 8 0, cellv d N 0] w fun e w' => e = .returned (.bool (dayB N 10000000)) ∧ Fresh w w' := by
  have hund : undef = Value.tuple #[] := rfl
  have h10 : 0 ≤ d := by omega
  have hF0 : Fresh w ((w.alloc (.cells #[.int .i64 0, .int .i64 111, .int .i64 8, .int .i64 0, .int .i64 0, .string ⟨#[]⟩] 46)).alloc (.cells #[.bool false, .int .i64 0, .float .f64 0, .string ⟨#[]⟩, .slice none 0 0, .string ⟨#[]⟩, .int .i64 d, .int .i64 N, .int .i64 0] 44)) := ((Kept.refl w _).alloc _).alloc _
  have HF0 := Go.Lib.hid hF0
  clear hF0
  go_enter Try.func23, Try.ntmps23
  generalize hdb : dayB N 10000000 = b
  go_wp2_with (fail)
  refine (day_any N 10000000 (by decide) (by decide) _).mono ?_
  rintro e w1 ⟨rfl, rfl⟩
  rw [hdb]
  cases b
  · go_wp2
    go_ret
    exact ⟨rfl, HF0.out⟩
  · go_wp2
    go_ret
    exact ⟨rfl, HF0.out⟩

set_option maxRecDepth 100000 in
set_option maxHeartbeats 1000000 in
theorem p4_neg (d N : Int) (h1 : d < 0) (w : World) : Calls Try.prog 23 #[colv 111 4 0, cellv d N 0] w fun e w' => e = .returned (.bool (false)) ∧ Fresh w w' := by
  have hund : undef = Value.tuple #[] := rfl
  have h10 : ¬ 0 ≤ d := by omega
  have h11 : ¬ 693595 ≤ d := by omega
  have hF0 : Fresh w ((w.alloc (.cells #[.int .i64 0, .int .i64 111, .int .i64 4, .int .i64 0, .int .i64 0, .string ⟨#[]⟩] 46)).alloc (.cells #[.bool false, .int .i64 0, .float .f64 0, .string ⟨#[]⟩, .slice none 0 0, .string ⟨#[]⟩, .int .i64 d, .int .i64 N, .int .i64 0] 44)) := ((Kept.refl w _).alloc _).alloc _
  have HF0 := Go.Lib.hid hF0
  clear hF0
  go_enter Try.func23, Try.ntmps23
  go_wp2
  go_ret
  exact ⟨rfl, HF0.out⟩

set_option maxRecDepth 100000 in
set_option maxHeartbeats 1000000 in
theorem p4_lo (d N : Int) (h1 : 0 ≤ d) (h2 : d < 693595) (w : World) : Calls Try.prog 23 #[colv 111 4 0, cellv d N 0] w fun e w' => e = .returned (.bool (false)) ∧ Fresh w w' := by
  have hund : undef = Value.tuple #[] := rfl
  have h10 : d ≤ 3652058 := by omega
  have h11 : ¬ 693595 ≤ d := by omega
  have hF0 : Fresh w ((w.alloc (.cells #[.int .i64 0, .int .i64 111, .int .i64 4, .int .i64 0, .int .i64 0, .string ⟨#[]⟩] 46)).alloc (.cells #[.bool false, .int .i64 0, .float .f64 0, .string ⟨#[]⟩, .slice none 0 0, .string ⟨#[]⟩, .int .i64 d, .int .i64 N, .int .i64 0] 44)) := ((Kept.refl w _).alloc _).alloc _
  have HF0 := Go.Lib.hid hF0
  clear hF0
  go_enter Try.func23, Try.ntmps23
  go_wp2
  go_ret
  exact ⟨rfl, HF0.out⟩

set_option maxRecDepth 100000 in
set_option maxHeartbeats 1000000 in
theorem p4_hi (d N : Int) (h1 : 759131 ≤ d) (h2 : d ≤ 3652058) (w : World) : Calls Try.prog 23 #[colv 111 4 0, cellv d N 0] w fun e w' => e = .returned (.bool (false)) ∧ Fresh w w' := by
  have hund : undef = Value.tuple #[] := rfl
  have h10 : 0 ≤ d := by omega
  have h11 : 693595 ≤ d := by omega
  have h12 : ¬ d < 759131 := by omega
  have hF0 : Fresh w ((w.alloc (.cells #[.int .i64 0, .int .i64 111, .int .i64 4, .int .i64 0, .int .i64 0, .string ⟨#[]⟩] 46)).alloc (.cells #[.bool false, .int .i64 0, .float .f64 0, .string ⟨#[]⟩, .slice none 0 0, .string ⟨#[]⟩, .int .i64 d, .int .i64 N, .int .i64 0] 44)) := ((Kept.refl w _).alloc _).alloc _
  have HF0 := Go.Lib.hid hF0
  clear hF0
  go_enter Try.func23, Try.ntmps23
  go_wp2
  go_ret
  exact ⟨rfl, HF0.out⟩

set_option maxRecDepth 100000 in
set_option maxHeartbeats 1000000 in
theorem p4_far (d N : Int) (h1 : 3652058 < d) (w : World) : Calls Try.prog 23 #[colv 111 4 0, cellv d N 0] w fun e w' => e = .returned (.bool (false)) ∧ Fresh w w' := by
  have hund : undef = Value.tuple #[] := rfl
  have h10 : 0 ≤ d := by omega
  have h11 : 693595 ≤ d := by omega
  have h12 : ¬ d < 759131 := by omega
  have h13 : ¬ d ≤ 3652058 := by omega
  have hF0 : Fresh w ((w.alloc (.cells #[.int .i64 0, .int .i64 111, .int .i64 4, .int .i64 0, .int .i64 0, .string ⟨#[]⟩] 46)).alloc (.cells #[.bool false, .int .i64 0, .float .f64 0, .string ⟨#[]⟩, .slice none 0 0, .string ⟨#[]⟩, .int .i64 d, .int .i64 N, .int .i64 0] 44)) := ((Kept.refl w _).alloc _).alloc _
  have HF0 := Go.Lib.hid hF0
  clear hF0
  go_enter Try.func23, Try.ntmps23
  go_wp2
  go_ret
  exact ⟨rfl, HF0.out⟩

set_option maxRecDepth 100000 in
set_option maxHeartbeats 1000000 in
theorem p4_mid (d N : Int) (h1 : 693595 ≤ d) (h2 : d < 759131) (w : World) : Calls Try.prog 23 #[colv 111 4 0, cellv d N 0] w fun e w' => e = .returned (.bool (dayB N 60000000000)) ∧ Fresh w w' := by
  have hund : undef = Value.tuple #[] := rfl
  have h10 : 0 ≤ d := by omega
  have h11 : d ≤ 3652058 := by omega
  have hF0 : Fresh w ((w.alloc (.cells #[.int .i64 0, .int .i64 111, .int .i64 4, .int .i64 0, .int .i64 0, .string ⟨#[]⟩] 46)).alloc (.cells #[.bool false, .int .i64 0, .float .f64 0, .string ⟨#[]⟩, .slice none 0 0, .string ⟨#[]⟩, .int .i64 d, .int .i64 N, .int .i64 0] 44)) := ((Kept.refl w _).alloc _).alloc _
  have HF0 := Go.Lib.hid hF0
  clear hF0
  go_enter Try.func23, Try.ntmps23
  generalize hdb : dayB N 60000000000 = b
  go_wp2_with (fail)
  refine (day_any N 60000000000 (by decide) (by decide) _).mono ?_
  rintro e w1 ⟨rfl, rfl⟩
  rw [hdb]
  cases b
  · go_wp2
    go_ret
    exact ⟨rfl, HF0.out⟩
  · go_wp2
    go_ret
    exact ⟨rfl, HF0.out⟩

/-- What ProperCell's answer tells. -/
def Tells8 (d N : Int) (e : Ending) : Prop := ∃ b, e = .returned (.bool b) ∧ (b = true → 639905 ≤ d ∧ d ≤ 3652058 ∧ dayB N 10000000 = true)
def Tells4 (d N : Int) (e : Ending) : Prop := ∃ b, e = .returned (.bool b) ∧ (b = true → 693595 ≤ d ∧ d < 759131 ∧ dayB N 60000000000 = true)

theorem proper8_any (d N : Int) (w : World) : Calls Try.prog 23 #[colv 111 8 0, cellv d N 0] w fun e w' => Tells8 d N e ∧ Fresh w w' := by
  have no : ∀ (e : Ending) (w' : World), (e = .returned (.bool false) ∧ Fresh w w') → (Tells8 d N e ∧ Fresh w w') := fun e w' h => ⟨⟨false, h.1, fun h => by cases h⟩, h.2⟩
  by_cases a : d < 0
  · exact (p8_neg d N a w).mono no
  by_cases b : d < 639905
  · exact (p8_lo d N (by omega) b w).mono no
  by_cases c : 3652058 < d
  · exact (p8_far d N c w).mono no
  exact (p8_mid d N (by omega) (by omega) w).mono fun e w' h => ⟨⟨_, h.1, fun q => ⟨by omega, by omega, q⟩⟩, h.2⟩

theorem proper4_any (d N : Int) (w : World) : Calls Try.prog 23 #[colv 111 4 0, cellv d N 0] w fun e w' => Tells4 d N e ∧ Fresh w w' := by
  have no : ∀ (e : Ending) (w' : World), (e = .returned (.bool false) ∧ Fresh w w') → (Tells4 d N e ∧ Fresh w w') := fun e w' h => ⟨⟨false, h.1, fun h => by cases h⟩, h.2⟩
  by_cases a : d < 0
  · exact (p4_neg d N a w).mono no
  by_cases b : d < 693595
  · exact (p4_lo d N (by omega) b w).mono no
  by_cases c : 3652058 < d
  · exact (p4_far d N c w).mono no
  by_cases c2 : 759131 ≤ d
  · exact (p4_hi d N c2 (by omega) w).mono no
  exact (p4_mid d N (by omega) (by omega) w).mono fun e w' h => ⟨⟨_, h.1, fun q => ⟨by omega, by omega, q⟩⟩, h.2⟩
end Go.Proofs.Ytahcaoenddapoaa
