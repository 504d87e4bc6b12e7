/- Days and years: plain facts on the calendar's numbers. -/
namespace Go.Proofs.Ytahcaoenddapoaa

/-- The century, the year in it and the day in that, of a day counted from the absolute one. -/
def cen (D : Nat) : Nat := (4 * D + 3) / 146097
def cdy (D : Nat) : Nat := (4 * D + 3) % 146097 / 4 * 4 + 3
def cyr (D : Nat) : Nat := cdy D / 1461
def ady (D : Nat) : Nat := cdy D % 1461 / 4
def jf (D : Nat) : Nat := if 306 ≤ ady D then 1 else 0
def lp (D : Nat) : Nat := if cyr D % 4 = 0 ∧ (cyr D ≠ 0 ∨ cen D % 4 = 0) then 1 else 0
/-- The absolute day of a day counted from the year 1. -/
def absD (n : Nat) : Nat := n + 106751990354238
def yr (D : Nat) : Nat := cen D * 100 - 292277022400 + cyr D + jf D
def yd (D : Nat) : Nat := ady D + 60 + (if jf D = 0 then lp D else 0) - 365 * jf D

/-- The days ahead of a day of a year. -/
def gdays (y d : Nat) : Nat := (y - 1) * 365 + (y - 1) / 4 - (y - 1) / 100 + (y - 1) / 400 + d - 1

theorem greg_aux (n C R cy s ay : Nat) (hn : n ≤ 4000000) (h1 : 4 * (n + 306) + 3 = 146097 * C + R) (hR : R < 146097) (h2 : R / 4 * 4 + 3 = 1461 * cy + s) (hs : s < 1461) (ha : ay = s / 4) :
    n + 306 = 36524 * C + C / 4 + 365 * cy + cy / 4 + ay ∧ cy ≤ 99 ∧ ay ≤ 365 ∧ C ≤ 110 := by
  have hC : C ≤ 110 := by omega
  have hcy : cy ≤ 99 := by omega
  obtain ⟨a, b, hb, rfl⟩ : ∃ a b, b < 4 ∧ C = 4 * a + b := ⟨C / 4, C % 4, by omega, by omega⟩
  have e1 : n + 306 = 146097 * a + 36524 * b + R / 4 := by omega
  have e2 : R / 4 = 365 * cy + cy / 4 + ay := by omega
  refine ⟨by omega, hcy, by omega, hC⟩

theorem greg_num (n C cy ay j l : Nat) (hn : n + 306 = 36524 * C + C / 4 + 365 * cy + cy / 4 + ay) (hcy : cy ≤ 99) (hay : ay ≤ 365) (hC : C ≤ 110)
    (hj : j = if 306 ≤ ay then 1 else 0) (hl : l = if cy % 4 = 0 ∧ (cy ≠ 0 ∨ C % 4 = 0) then 1 else 0) :
    1 ≤ C * 100 + cy + j ∧ C * 100 + cy + j ≤ 12000 ∧ 1 ≤ ay + 60 + (if j = 0 then l else 0) - 365 * j ∧ ay + 60 + (if j = 0 then l else 0) - 365 * j ≤ 366 ∧ gdays (C * 100 + cy + j) (ay + 60 + (if j = 0 then l else 0) - 365 * j) = n := by
  unfold gdays
  by_cases h306 : 306 ≤ ay
  · rw [if_pos h306] at hj
    subst hj
    simp only [Nat.one_ne_zero, if_false]
    have e1 : (C * 100 + cy + 1 - 1) / 4 = 25 * C + cy / 4 := by omega
    have e2 : (C * 100 + cy + 1 - 1) / 100 = C := by omega
    have e3 : (C * 100 + cy + 1 - 1) / 400 = C / 4 := by omega
    rw [e1, e2, e3]
    omega
  · rw [if_neg h306] at hj
    subst hj
    simp only [if_true]
    by_cases h0 : cy = 0
    · subst h0
      have hC1 : 1 ≤ C := by omega
      have e1 : (C * 100 + 0 + 0 - 1) / 4 = 25 * C - 1 := by omega
      have e2 : (C * 100 + 0 + 0 - 1) / 100 = C - 1 := by omega
      have e3 : (C * 100 + 0 + 0 - 1) / 400 = (C - 1) / 4 := by omega
      rw [e1, e2, e3]
      by_cases h4 : C % 4 = 0
      · rw [if_pos ⟨rfl, .inr h4⟩] at hl
        omega
      · rw [if_neg (by rintro ⟨_, h | h⟩; exact h rfl; exact h4 h)] at hl
        omega
    · have e1 : (C * 100 + cy + 0 - 1) / 4 = 25 * C + (cy - 1) / 4 := by omega
      have e2 : (C * 100 + cy + 0 - 1) / 100 = C := by omega
      have e3 : (C * 100 + cy + 0 - 1) / 400 = C / 4 := by omega
      rw [e1, e2, e3]
      by_cases h4 : cy % 4 = 0
      · rw [if_pos ⟨h4, .inl h0⟩] at hl
        omega
      · rw [if_neg (by rintro ⟨h, _⟩; exact h4 h)] at hl
        omega

theorem shift4 (B C : Nat) (hb : B = 2922770224) : (B + C) % 4 = C % 4 := by omega
theorem shift100 (B C : Nat) (hb : B = 2922770224) : (B + C) * 100 - 292277022400 = C * 100 := by omega
theorem cen_shift (n B : Nat) (hb : B = 2922770224) : cen (absD n) = B + (4 * (n + 306) + 3) / 146097 := by unfold cen absD; omega

theorem greg (n : Nat) (hn : n ≤ 4000000) : 1 ≤ yr (absD n) ∧ yr (absD n) ≤ 12000 ∧ 1 ≤ yd (absD n) ∧ yd (absD n) ≤ 366 ∧ gdays (yr (absD n)) (yd (absD n)) = n := by
  obtain ⟨B, hb⟩ : ∃ B : Nat, B = 2922770224 := ⟨_, rfl⟩
  have hcen : cen (absD n) = B + (4 * (n + 306) + 3) / 146097 := cen_shift n B hb
  have hr : (4 * absD n + 3) % 146097 = (4 * (n + 306) + 3) % 146097 := by unfold absD; omega
  generalize absD n = D at *
  generalize hC : (4 * (n + 306) + 3) / 146097 = C at *
  generalize hR : (4 * (n + 306) + 3) % 146097 = R at *
  have hcd : cdy D = R / 4 * 4 + 3 := by unfold cdy; rw [hr]
  have hR1 : R < 146097 := by rw [← hR]; exact Nat.mod_lt _ (by decide)
  have h0 : 4 * (n + 306) + 3 = 146097 * C + R := by rw [← hC, ← hR]; exact (Nat.div_add_mod _ _).symm
  have h00 : R / 4 * 4 + 3 = 1461 * cyr D + cdy D % 1461 := by rw [← hcd]; exact (Nat.div_add_mod _ _).symm
  obtain ⟨h1, h2, h3, h4⟩ := greg_aux n C R (cyr D) (cdy D % 1461) (ady D) hn h0 hR1 h00 (Nat.mod_lt _ (by decide)) rfl
  have hB4 : (B + C) % 4 = C % 4 := shift4 B C hb
  have hB100 : (B + C) * 100 - 292277022400 = C * 100 := shift100 B C hb
  clear h0 hr hC hR hb
  have hl : lp D = if cyr D % 4 = 0 ∧ (cyr D ≠ 0 ∨ C % 4 = 0) then 1 else 0 := by
    unfold lp
    rw [hcen, hB4]
  have h5 := greg_num n C (cyr D) (ady D) (jf D) (lp D) h1 h2 h3 h4 rfl hl
  have hy : yr D = C * 100 + cyr D + jf D := by
    unfold yr
    rw [hcen, hB100]
  unfold yd
  rw [hy]
  exact h5

theorem jf_le (D : Nat) : jf D ≤ 1 := by unfold jf; split <;> omega
theorem lp_le (D : Nat) : lp D ≤ 1 := by unfold lp; split <;> omega
theorem cyr_le (D : Nat) : cyr D ≤ 100 := by unfold cyr cdy; omega
theorem ady_le (D : Nat) : ady D ≤ 365 := by unfold ady; omega
theorem cdy_le (D : Nat) : cdy D ≤ 146099 := by unfold cdy; omega
end Go.Proofs.Ytahcaoenddapoaa
