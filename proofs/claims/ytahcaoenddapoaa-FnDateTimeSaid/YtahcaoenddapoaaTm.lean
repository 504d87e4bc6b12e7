/- Package time: days, years, the clock. -/
import Derived.Test.YtahcaoenddapoaaBase
import Derived.Test.YtahcaoenddapoaaCal
import Derived.OwnWalk
namespace Go.Proofs.Ytahcaoenddapoaa
open Go.RowKit

theorem mul_hi (c : Nat) (hc : c ≤ 146099) : (2939745 * (c : Int)) / 4294967296 = ((c / 1461 : Nat) : Int) := by omega
theorem mul_lo (c : Nat) (hc : c ≤ 146099) : (2939745 * (c : Int)) % 4294967296 = ((149 * (c / 1461) + 2939745 * (c % 1461) : Nat) : Int) := by omega
theorem lo_day (q r : Nat) (hq : q ≤ 100) : (149 * q + 2939745 * r) / 2939745 / 4 = r / 4 := by omega

set_option maxRecDepth 100000 in
theorem mul32_any (c : Nat) (hc : c ≤ 146099) (w : World) : Calls Try.prog 173 #[.int .u32 2939745, .int .u32 (c : Int)] w fun e w' => e = .returned (.tuple #[.int .u32 ((c / 1461 : Nat) : Int), .int .u32 ((149 * (c / 1461) + 2939745 * (c % 1461) : Nat) : Int)]) ∧ w' = w := by
  have h1 := Go.Lib.hid (mul_hi c hc)
  have h2 := Go.Lib.hid (mul_lo c hc)
  go_enter Try.func173, Try.ntmps173
  go_wp2
  go_ret2
  refine ⟨?_, rfl⟩
  show Ending.returned (.tuple #[.int .u32 (2939745 * (c : Int) / 4294967296), .int .u32 (2939745 * (c : Int) % 4294967296)]) = _
  rw [h1.out, h2.out]

set_option maxRecDepth 100000 in
theorem days_any (a : Nat) (ha : (a : Int) ≤ 18446744073709551615) (w : World) : Calls Try.prog 148 #[.int .u64 (a : Int)] w fun e w' => e = .returned (.int .u64 ((a / 86400 : Nat) : Int)) ∧ w' = w := by
  go_enter Try.func148, Try.ntmps148
  go_wp2
  go_ret
  simp

set_option maxRecDepth 100000 in
theorem janFeb_any (D : Nat) (w : World) : Calls Try.prog 150 #[.int .i64 (ady D : Int)] w fun e w' => e = .returned (.int .i64 (jf D : Int)) ∧ w' = w := by
  unfold jf
  generalize ady D = a
  go_enter Try.func150, Try.ntmps150
  by_cases h : 306 ≤ a
  · have h' : (306 : Int) ≤ a := by omega
    rw [if_pos h]
    go_wp2
    go_ret
    simp
  · have h' : ¬ (306 : Int) ≤ a := by omega
    rw [if_neg h]
    go_wp2
    go_ret
    simp

set_option maxRecDepth 100000 in
theorem leap_any (D : Nat) (w : World) : Calls Try.prog 175 #[.int .u64 (cen D : Int), .int .i64 (cyr D : Int)] w fun e w' => e = .returned (.int .i64 (lp D : Int)) ∧ w' = w := by
  have h1 := cyr_le D
  unfold lp
  generalize cyr D = y at *
  generalize cen D = c at *
  go_enter Try.func175, Try.ntmps175
  by_cases h4 : y % 4 = 0 <;> by_cases h0 : y = 0 <;> by_cases hc : c % 4 = 0
  all_goals
    have h4' : (y : Int).tmod 4 = ((y % 4 : Nat) : Int) := rfl
    have hc' : (c : Int).tmod 4 = ((c % 4 : Nat) : Int) := rfl
    go_wp2
  all_goals first
    | (go_ret; exact ⟨rfl, rfl⟩)
    | (exfalso; omega)

set_option maxRecDepth 100000 in
theorem split_any (D : Nat) (hD : D ≤ 1000000000000000) (w : World) : Calls Try.prog 149 #[.int .u64 (D : Int)] w fun e w' => e = .returned (.tuple #[.int .u64 (cen D : Int), .int .i64 (cyr D : Int), .int .i64 (ady D : Int)]) ∧ w' = w := by
  have h1 : (4 * (D : Int) + 3) / 146097 = (cen D : Int) := by unfold cen; omega
  have hor : bits .or .u32 ((4 * (D : Int) + 3) % 146097) 3 = (cdy D : Int) := by
    unfold cdy
    obtain ⟨q, m, hm, e⟩ : ∃ q m, m < 4 ∧ (4 * D + 3) % 146097 = 4 * q + m := ⟨(4 * D + 3) % 146097 / 4, (4 * D + 3) % 146097 % 4, by omega, by omega⟩
    have e1 : (4 * (D : Int) + 3) % 146097 = ((4 * q + m : Nat) : Int) := by omega
    have hq : q < 36525 := by omega
    rw [e1, e]
    show IntKind.u32.wrap ((BitVec.ofInt 32 ((4 * q + m : Nat) : Int) ||| BitVec.ofInt 32 3).toNat : Int) = _
    have h3 : (BitVec.ofInt 32 ((4 * q + m : Nat) : Int)).toNat = 4 * q + m := by rw [BitVec.ofInt_natCast, BitVec.toNat_ofNat]; exact Nat.mod_eq_of_lt (by omega)
    have h4 : (4 * q + m) ||| 3 = 4 * q + 3 := by
      have a1 := Nat.two_pow_add_eq_or_of_lt (i := 2) (b := m) (by omega) q
      have a2 := Nat.two_pow_add_eq_or_of_lt (i := 2) (b := 3) (by omega) q
      have a3 : m ||| 3 = 3 := by
        have : ∀ m : Fin 4, m.val ||| 3 = 3 := by decide
        exact this ⟨m, hm⟩
      have a4 : 2 ^ 2 * q = 4 * q := by omega
      rw [a4] at a1 a2
      rw [a1, Nat.or_assoc, a3, a2]
    rw [BitVec.toNat_or, h3, show (BitVec.ofInt 32 3).toNat = 3 from rfl, h4, IntKind.wrap_u32, show (4 * q + m) / 4 = q by omega]
    omega
  have hcd := cdy_le D
  have hl := lo_day (cdy D / 1461) (cdy D % 1461) (by omega)
  have HL := Go.Lib.hid hl
  have HOR := Go.Lib.hid hor
  have H1 := Go.Lib.hid h1
  clear hl hor h1
  go_enter Try.func149, Try.ntmps149
  go_wp2_with (fail)
  rw [HOR.out]
  refine (mul32_any (cdy D) hcd _).mono ?_
  rintro e w' ⟨rfl, rfl⟩
  have e3 : ((149 * (cdy D / 1461) + 2939745 * (cdy D % 1461) : Nat) : Int) / 2939745 / 4 = (ady D : Int) := by
    have := HL.out
    unfold ady
    omega
  have hq : cdy D / 1461 ≤ 100 := by omega
  have hr : cdy D % 1461 < 1461 := Nat.mod_lt _ (by decide)
  have E3 := Go.Lib.hid e3
  have hb1 : ((149 * (cdy D / 1461) + 2939745 * (cdy D % 1461) : Nat) : Int) ≤ 4294967295 := by omega
  have hb0 : (0 : Int) ≤ ((149 * (cdy D / 1461) + 2939745 * (cdy D % 1461) : Nat) : Int) := Int.natCast_nonneg _
  have e4 : ((cdy D / 1461 : Nat) : Int) = (cyr D : Int) := rfl
  have E4 := Go.Lib.hid e4
  clear e3 e4 hr HL HOR
  generalize ((149 * (cdy D / 1461) + 2939745 * (cdy D % 1461) : Nat) : Int) = L at *
  generalize hX : cdy D / 1461 = X at *
  clear hX
  go_wp2
  go_ret3
  refine ⟨?_, rfl⟩
  show Ending.returned (.tuple #[.int .u64 ((4 * (D : Int) + 3) / 146097), .int .i64 (X : Int), .int .i64 (L / 2939745 / 4)]) = _
  rw [H1.out, E4.out, E3.out]

set_option maxRecDepth 100000 in
theorem year_any (D : Nat) (hD : D ≤ 1000000000000000) (hc : 2922770224 ≤ cen D) (w : World) : Calls Try.prog 151 #[.int .u64 (cen D : Int), .int .i64 (cyr D : Int), .int .i64 (jf D : Int)] w fun e w' => e = .returned (.int .i64 (yr D : Int)) ∧ w' = w := by
  have h1 := cyr_le D
  have h2 := jf_le D
  have h3 : cen D ≤ 1000000000000000 := by unfold cen; omega
  have h4 : (cen D : Int) * 100 - 292277022400 + (cyr D : Int) + (jf D : Int) = (yr D : Int) := by unfold yr; omega
  have H4 := Go.Lib.hid h4
  clear h4
  generalize cen D = c at *
  generalize cyr D = y at *
  generalize jf D = j at *
  go_enter Try.func151, Try.ntmps151
  go_wp2
  go_ret
  refine ⟨?_, rfl⟩
  show Ending.returned (.int .i64 ((c : Int) * 100 - 292277022400 + (y : Int) + (j : Int))) = _
  rw [H4.out]

theorem andNot_01 (l j : Nat) (hl : l ≤ 1) (hj : j ≤ 1) : bits .andNot .i64 (l : Int) (j : Int) = ((if j = 0 then l else 0 : Nat) : Int) := by
  have : ∀ l j : Fin 2, bits .andNot .i64 (l.val : Int) (j.val : Int) = ((if j.val = 0 then l.val else 0 : Nat) : Int) := by decide +kernel
  exact this ⟨l, by omega⟩ ⟨j, by omega⟩

set_option maxRecDepth 100000 in
theorem yday_any (D : Nat) (w : World) : Calls Try.prog 174 #[.int .i64 (ady D : Int), .int .i64 (jf D : Int), .int .i64 (lp D : Int)] w fun e w' => e = .returned (.int .i64 (yd D : Int)) ∧ w' = w := by
  have h1 := ady_le D
  have h2 := jf_le D
  have h3 := lp_le D
  have h5 : jf D = 1 → 306 ≤ ady D := by unfold jf; split <;> omega
  have h4 : (ady D : Int) + 60 + ((if jf D = 0 then lp D else 0 : Nat) : Int) - 365 * (jf D : Int) = (yd D : Int) := by
    unfold yd
    split <;> omega
  have hx := andNot_01 _ _ h3 h2
  have hm : ((if jf D = 0 then lp D else 0 : Nat) : Int) ≤ 1 := by split <;> omega
  have hm0 : (0 : Int) ≤ ((if jf D = 0 then lp D else 0 : Nat) : Int) := Int.natCast_nonneg _
  have H4 := Go.Lib.hid h4
  clear h4 h5
  generalize ((if jf D = 0 then lp D else 0 : Nat) : Int) = m at *
  generalize ady D = a at *
  generalize lp D = l at *
  generalize jf D = j at *
  go_enter Try.func174, Try.ntmps174
  go_wp2
  go_ret
  refine ⟨?_, rfl⟩
  show Ending.returned (.int .i64 ((a : Int) + 60 + m - 365 * (j : Int))) = _
  rw [H4.out]

set_option maxRecDepth 100000 in
theorem yearYday_any (D : Nat) (hD : D ≤ 1000000000000000) (hc : 2922770224 ≤ cen D) (w : World) : Calls Try.prog 152 #[.int .u64 (D : Int)] w fun e w' => e = .returned (.tuple #[.int .i64 (yr D : Int), .int .i64 (yd D : Int)]) ∧ w' = w := by
  go_enter Try.func152, Try.ntmps152
  go_wp2_with (fail)
  refine (split_any D hD _).mono ?_
  rintro e w' ⟨rfl, rfl⟩
  go_wp2_with (fail)
  refine (janFeb_any D _).mono ?_
  rintro e w' ⟨rfl, rfl⟩
  go_wp2_with (fail)
  refine (year_any D hD hc _).mono ?_
  rintro e w' ⟨rfl, rfl⟩
  go_wp2_with (fail)
  refine (leap_any D _).mono ?_
  rintro e w' ⟨rfl, rfl⟩
  go_wp2_with (fail)
  refine (yday_any D _).mono ?_
  rintro e w' ⟨rfl, rfl⟩
  go_wp2
  go_ret2
  exact ⟨rfl, rfl⟩
end Go.Proofs.Ytahcaoenddapoaa
