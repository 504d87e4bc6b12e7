/- math.Round, at whole numbers; nanosToThreeHundredthsOfASecond. (Printed by genrnd.py.) -/
import Derived.Test.YtahcaoenddapoaaDat
import Derived.Laws.FloatArith
namespace Go.Proofs.Ytahcaoenddapoaa
open Go.RowKit

theorem run_bits (b : Nat) (W : World) : (callFunc 91 #[.float .f64 b]).run Try.prog W = .ok (.value (.int .u64 (b : Int))) W := by kernel_rfl
theorem run_from (b : Nat) (W : World) : (callFunc 176 #[.int .u64 (b : Int)]).run Try.prog W = .ok (.value (.float .f64 b)) W := by kernel_rfl

set_option maxRecDepth 100000 in
theorem round_zero (w : World) : Calls Try.prog 153 #[.float .f64 0] w fun e w' => e = .returned (.float .f64 0) ∧ w' = w := by
  have hb : ∀ W : World, (callFunc 91 #[.float .f64 0]).run Try.prog W = .ok (.value (.int .u64 0)) W := run_bits 0
  have hf : ∀ W : World, (callFunc 176 #[.int .u64 0]).run Try.prog W = .ok (.value (.float .f64 0)) W := run_from 0
  have q1 : bits .and .u64 0 2047 = 0 := by decide +kernel
  have q2 : bits .and .u64 0 9223372036854775808 = 0 := by decide +kernel
  go_enter Try.func153, Try.ntmps153
  go_wp2
  go_ret
  simp

set_option maxRecDepth 100000 in
theorem round_whole (b : Nat) (B e h m : Int) (hB : (b : Int) = B) (hB1 : B < 9223372036854775808) (he0 : 1023 ≤ e) (he1 : e < 1075) (q1 : bits .and .u64 (B / 4503599627370496) 2047 = e) (q2 : 2251799813685248 / 2 ^ (e - 1023).toNat = h) (q3 : 4503599627370495 / 2 ^ (e - 1023).toNat = m) (h0 : 0 ≤ h) (h1 : h ≤ 2251799813685248) (q4 : bits .andNot .u64 (B + h) m = B) (w : World) :
    Calls Try.prog 153 #[.float .f64 b] w fun e w' => e = .returned (.float .f64 b) ∧ w' = w := by
  have hb : ∀ W : World, (callFunc 91 #[.float .f64 b]).run Try.prog W = .ok (.value (.int .u64 B)) W := fun W => by rw [← hB]; exact run_bits b W
  have hf : ∀ W : World, (callFunc 176 #[.int .u64 B]).run Try.prog W = .ok (.value (.float .f64 b)) W := fun W => by rw [← hB]; exact run_from b W
  have n1 : ¬ e < 1023 := by omega
  have hB0 : 0 ≤ B := by rw [← hB]; exact Int.natCast_nonneg _
  have s0 : 0 ≤ B + h := by omega
  have s1 : B + h ≤ 18446744073709551615 := by omega
  clear hB
  go_enter Try.func153, Try.ntmps153
  go_wp2
  go_ret
  exact ⟨rfl, rfl⟩

/-- The floats on the way from nanoseconds to three hundredths of a second. -/
def flA (k : Nat) : Nat := floatOfInt .f64 ((10000000 * k : Nat) : Int)
def flB (k : Nat) : Nat := (floatBits .mul .f64 (flA k) 4613937818241073152).getD 0
def flC (k : Nat) : Nat := (floatBits .quo .f64 (flB k) 4711630319722168320).getD 0
def flE (k : Nat) : Int := bits .and .u64 ((flC k : Int) / 4503599627370496) 2047

theorem fl_mul : ∀ k : Fin 100, floatBits .mul .f64 (flA k.val) 4613937818241073152 = some (flB k.val) := by decide +kernel
theorem fl_quo : ∀ k : Fin 100, floatBits .quo .f64 (flB k.val) 4711630319722168320 = some (flC k.val) := by decide +kernel
theorem fl_int : ∀ k : Fin 100, floatToIntVal .f64 (flC k.val) .i64 = some (3 * (k.val : Int)) := by decide +kernel
theorem fl_zero : flC 0 = 0 := by decide +kernel
theorem fl_exp : ∀ k : Fin 99, (flC (k.val + 1) : Int) < 9223372036854775808 ∧ 1023 ≤ flE (k.val + 1) ∧ flE (k.val + 1) < 1075 ∧ (2251799813685248 : Int) / 2 ^ (flE (k.val + 1) - 1023).toNat ≤ 2251799813685248 ∧ (4503599627370495 : Int) / 2 ^ (flE (k.val + 1) - 1023).toNat ≤ 4503599627370495 ∧
    0 ≤ (2251799813685248 : Int) / 2 ^ (flE (k.val + 1) - 1023).toNat ∧ 0 ≤ (4503599627370495 : Int) / 2 ^ (flE (k.val + 1) - 1023).toNat ∧ bits .andNot .u64 ((flC (k.val + 1) : Int) + (2251799813685248 : Int) / 2 ^ (flE (k.val + 1) - 1023).toNat) ((4503599627370495 : Int) / 2 ^ (flE (k.val + 1) - 1023).toNat) = (flC (k.val + 1) : Int) := by decide +kernel

theorem round_any (k : Nat) (hk : k < 100) (w : World) : Calls Try.prog 153 #[.float .f64 (flC k)] w fun e w' => e = .returned (.float .f64 (flC k)) ∧ w' = w := by
  match k, hk with
  | 0, _ => rw [fl_zero]; exact round_zero w
  | j + 1, h =>
    obtain ⟨a, b, c, d, _, f, _, i⟩ := fl_exp ⟨j, by omega⟩
    exact round_whole (flC (j + 1)) _ (flE (j + 1)) _ _ rfl a b c rfl rfl rfl f d i w

set_option maxRecDepth 100000 in
theorem three_any (k : Nat) (hk : k < 100) (n : Int) (hn : n = ((10000000 * k : Nat) : Int)) (w : World) : Calls Try.prog 115 #[.int .i64 n] w fun e w' => e = .returned (.int .i64 (3 * (k : Int))) ∧ w' = w := by
  have hc : ∀ W : World, (convert 3 42 (.int .i64 n)).run Try.prog W = .ok (.float .f64 (flA k)) W := fun W => by subst hn; exact run_convert_int_float W 3 42 .i64 .f64 _ (by kernel_rfl) Try.underlying42
  have hm : ∀ W : World, (binOp .mul 42 (.float .f64 (flA k)) (.float .f64 4613937818241073152)).run Try.prog W = .ok (.float .f64 (flB k)) W := fun W => run_float_arith W .mul 42 .f64 _ _ _ (fl_mul ⟨k, hk⟩)
  have hq : ∀ W : World, (binOp .quo 42 (.float .f64 (flB k)) (.float .f64 4711630319722168320)).run Try.prog W = .ok (.float .f64 (flC k)) W := fun W => run_float_arith W .quo 42 .f64 _ _ _ (fl_quo ⟨k, hk⟩)
  have hi : ∀ W : World, (convert 42 3 (.float .f64 (flC k))).run Try.prog W = .ok (.int .i64 (3 * (k : Int))) W := fun W => run_convert_float_int W 42 3 .f64 .i64 _ _ (by kernel_rfl) Try.underlying3 (fl_int ⟨k, hk⟩)
  have hr := round_any k hk
  have HR := Go.Lib.hid hr
  clear hn hr
  generalize flA k = x at *
  generalize flB k = y at *
  generalize flC k = z at *
  generalize 3 * (k : Int) = r at *
  go_enter Try.func115, Try.ntmps115
  go_wp2_with (fail)
  refine (HR.out _).mono ?_
  rintro e w1 ⟨rfl, rfl⟩
  go_wp2
  go_ret
  exact ⟨rfl, rfl⟩
end Go.Proofs.Ytahcaoenddapoaa