/- Words of 64 bits: bits.Mul64, bits.Add64, mulAddWWW_g. -/
import Derived.Test.YthmopakaikhjlaaGreatDoorMem
import Derived.Test.YthmopakaikhjlaaGreatDoorPut
import Derived.Laws.Externs
import Derived.IntWalk
namespace Go.Proofs.YthmopakaikhjlaaGreatDoor
open Go.RowKit

theorem add64_run (x y : Int) (hx : 0 ≤ x) (hy : 0 ≤ y) (w : World) :
    (callFunc 123 #[.int .u64 x, .int .u64 y, .int .u64 0]).run Tryz.prog w = .ok (.value (.tuple #[.int .u64 ((x + y + 0) % 18446744073709551616), .int .u64 ((x + y + 0) / 18446744073709551616)])) w := by
  rw [run_callFunc_extern Tryz.func123 (by kernel_rfl) (by kernel_rfl) (by kernel_rfl) (e := add64Entry) (by kernel_rfl), run_add64 x y 0 hx hy (by decide) (by decide)]
  rfl

theorem and_low (a : Nat) (ha : a < 18446744073709551616) : bits .and .u64 (a : Int) 4294967295 = ((a % 4294967296 : Nat) : Int) := by
  have h1 : (BitVec.ofInt 64 (a : Int)).toNat = a := by
    rw [BitVec.ofInt_natCast, BitVec.toNat_ofNat]; exact Nat.mod_eq_of_lt (by omega)
  have h2 : (BitVec.ofInt 64 (4294967295 : Int)).toNat = 2 ^ 32 - 1 := by decide
  show IntKind.u64.wrap ((BitVec.ofInt 64 (a : Int) &&& BitVec.ofInt 64 (4294967295 : Int)).toNat : Int) = _
  rw [BitVec.toNat_and, h1, h2, Nat.and_two_pow_sub_one_eq_mod]
  exact IntWalk.u64_in _ (by omega)

theorem mul_le_B {a d : Nat} (ha : a ≤ 4294967295) (hd : d ≤ 4294967295) : a * d ≤ 18446744065119617025 := Nat.le_trans (Nat.mul_le_mul ha hd) (by decide)

/-- The higher word of a product, by halves of words. -/
theorem mul_hi (x y : Nat) (hx : x < 18446744073709551616) (hy : y < 18446744073709551616) :
    x * y / 18446744073709551616 = x / 4294967296 * (y / 4294967296) + (x / 4294967296 * (y % 4294967296) + x % 4294967296 * (y % 4294967296) / 4294967296) / 4294967296 + ((x / 4294967296 * (y % 4294967296) + x % 4294967296 * (y % 4294967296) / 4294967296) % 4294967296 + x % 4294967296 * (y / 4294967296)) / 4294967296 := by
  have ex : x = x / 4294967296 * 4294967296 + x % 4294967296 := by omega
  have ey : y = y / 4294967296 * 4294967296 + y % 4294967296 := by omega
  have ha : x / 4294967296 ≤ 4294967295 := by omega
  have hb : x % 4294967296 ≤ 4294967295 := by omega
  have hc : y / 4294967296 ≤ 4294967295 := by omega
  have hd : y % 4294967296 ≤ 4294967295 := by omega
  generalize x / 4294967296 = a at *
  generalize x % 4294967296 = b at *
  generalize y / 4294967296 = c at *
  generalize y % 4294967296 = d at *
  subst ex
  subst ey
  have e : (a * 4294967296 + b) * (c * 4294967296 + d) = a * c * 18446744073709551616 + (a * d + b * c) * 4294967296 + b * d := by
    rw [Nat.add_mul, Nat.mul_add, Nat.mul_add]
    have e1 : a * 4294967296 * (c * 4294967296) = a * c * 18446744073709551616 := by
      rw [Nat.mul_mul_mul_comm]
    have e2 : a * 4294967296 * d = a * d * 4294967296 := by rw [Nat.mul_right_comm]
    have e3 : b * (c * 4294967296) = b * c * 4294967296 := by rw [Nat.mul_assoc]
    rw [e1, e2, e3]
    omega
  rw [e]
  generalize a * c = p
  generalize a * d = q
  generalize b * c = r
  generalize b * d = s
  omega

theorem mul_hi_bounds (x y : Nat) (hx : x < 18446744073709551616) (hy : y < 18446744073709551616) :
    x / 4294967296 * (y / 4294967296) ≤ 18446744065119617025 ∧ x / 4294967296 * (y % 4294967296) ≤ 18446744065119617025 ∧ x % 4294967296 * (y % 4294967296) ≤ 18446744065119617025 ∧ x % 4294967296 * (y / 4294967296) ≤ 18446744065119617025 :=
  ⟨mul_le_B (by omega) (by omega), mul_le_B (by omega) (by omega), mul_le_B (by omega) (by omega), mul_le_B (by omega) (by omega)⟩

set_option maxRecDepth 100000 in
theorem mul64_any (x y : Nat) (hx : x < 18446744073709551616) (hy : y < 18446744073709551616) (w : World) :
    Calls Tryz.prog 108 #[.int .u64 x, .int .u64 y] w fun e w' => e = .returned (.tuple #[.int .u64 ((x * y / 18446744073709551616 : Nat) : Int), .int .u64 ((x * y % 18446744073709551616 : Nat) : Int)]) ∧ w' = w := by
  go_enter Tryz.func108, Tryz.ntmps108
  go_wp2_with (fail)
  have b1 := mul_hi_bounds x y hx hy
  have h1 := mul_hi x y hx hy
  rw [and_low x hx, and_low y hy]
  have ea : (x : Int) / 4294967296 = ((x / 4294967296 : Nat) : Int) := by omega
  have ec : (y : Int) / 4294967296 = ((y / 4294967296 : Nat) : Int) := by omega
  rw [ea, ec]
  simp only [← Int.natCast_mul]
  rw [h1]
  have hlo : IntKind.u64.wrap ((x * y : Nat) : Int) = ((x * y % 18446744073709551616 : Nat) : Int) := by rw [IntKind.wrap_u64]; omega
  rw [hlo]
  obtain ⟨bp, bq, bs, br⟩ := b1
  generalize x / 4294967296 * (y / 4294967296) = p at *
  generalize x / 4294967296 * (y % 4294967296) = q at *
  generalize x % 4294967296 * (y % 4294967296) = s at *
  generalize x % 4294967296 * (y / 4294967296) = r at *
  have wp : IntKind.u64.wrap (p : Int) = (p : Int) := IntWalk.u64_in _ (by omega)
  have wq : IntKind.u64.wrap (q : Int) = (q : Int) := IntWalk.u64_in _ (by omega)
  have ws : IntKind.u64.wrap (s : Int) = (s : Int) := IntWalk.u64_in _ (by omega)
  have wr : IntKind.u64.wrap (r : Int) = (r : Int) := IntWalk.u64_in _ (by omega)
  rw [wp, wq, ws, wr]
  have et : IntKind.u64.wrap ((q : Int) + (s : Int) / 4294967296) = ((q + s / 4294967296 : Nat) : Int) := by rw [IntWalk.u64_in _ (by omega)]; omega
  rw [et, and_low _ (by omega)]
  have eu : IntKind.u64.wrap (((((q + s / 4294967296) % 4294967296 : Nat)) : Int) + (r : Int)) = (((q + s / 4294967296) % 4294967296 + r : Nat) : Int) := by rw [IntWalk.u64_in _ (by omega)]; omega
  rw [eu]
  have ev : IntKind.u64.wrap ((p : Int) + ((q + s / 4294967296 : Nat) : Int) / 4294967296) = ((p + (q + s / 4294967296) / 4294967296 : Nat) : Int) := by rw [IntWalk.u64_in _ (by omega)]; omega
  rw [ev]
  have ew : IntKind.u64.wrap (((p + (q + s / 4294967296) / 4294967296 : Nat) : Int) + (((q + s / 4294967296) % 4294967296 + r : Nat) : Int) / 4294967296) = ((p + (q + s / 4294967296) / 4294967296 + ((q + s / 4294967296) % 4294967296 + r) / 4294967296 : Nat) : Int) := by rw [IntWalk.u64_in _ (by omega)]; omega
  rw [ew]
  go_ret2
  exact ⟨rfl, rfl⟩

set_option maxRecDepth 100000 in
theorem mul_any (x y : Nat) (hx : x < 18446744073709551616) (hy : y < 18446744073709551616) (w : World) :
    Calls Tryz.prog 91 #[.int .u64 x, .int .u64 y] w fun e w' => e = .returned (.tuple #[.int .u64 ((x * y / 18446744073709551616 : Nat) : Int), .int .u64 ((x * y % 18446744073709551616 : Nat) : Int)]) ∧ w' = w := by
  have H := mul64_any x y hx hy w
  generalize x * y / 18446744073709551616 = hi at *
  generalize x * y % 18446744073709551616 = lo at *
  have HH := Go.Lib.hid H
  clear H
  go_enter Tryz.func91, Tryz.ntmps91
  go_wp2_with (fail)
  refine HH.out.mono ?_
  rintro e w1 ⟨rfl, hw⟩
  replace hw := hw.symm
  subst hw
  go_wp2
  go_ret2
  exact ⟨rfl, rfl⟩

set_option maxRecDepth 100000 in
theorem add_any (x y : Nat) (hx : x < 18446744073709551616) (hy : y < 18446744073709551616) (w : World) :
    Calls Tryz.prog 117 #[.int .u64 x, .int .u64 y, .int .u64 0] w fun e w' => e = .returned (.tuple #[.int .u64 (((x + y) % 18446744073709551616 : Nat) : Int), .int .u64 (((x + y) / 18446744073709551616 : Nat) : Int)]) ∧ w' = w := by
  have hadd := add64_run (x : Int) (y : Int) (by omega) (by omega)
  have e1 : ((x : Int) + (y : Int) + 0) % 18446744073709551616 = (((x + y) % 18446744073709551616 : Nat) : Int) := by omega
  have e2 : ((x : Int) + (y : Int) + 0) / 18446744073709551616 = (((x + y) / 18446744073709551616 : Nat) : Int) := by omega
  rw [e1, e2] at hadd
  generalize (x + y) % 18446744073709551616 = lo at *
  generalize (x + y) / 18446744073709551616 = hi at *
  clear e1 e2 hx hy
  go_enter Tryz.func117, Tryz.ntmps117
  go_wp2
  go_ret2
  exact ⟨rfl, rfl⟩

set_option maxRecDepth 100000 in
theorem mulAdd_any (x y c : Nat) (hx : x < 18446744073709551616) (hy : y < 18446744073709551616) (hc : c < 18446744073709551616) (w : World) :
    Calls Tryz.prog 119 #[.int .u64 x, .int .u64 y, .int .u64 c] w fun e w' => e = .returned (.tuple #[.int .u64 (((x * y + c) / 18446744073709551616 : Nat) : Int), .int .u64 (((x * y + c) % 18446744073709551616 : Nat) : Int)]) ∧ w' = w := by
  have hxy : x * y ≤ 18446744073709551615 * 18446744073709551615 := Nat.mul_le_mul (by omega) (by omega)
  obtain ⟨lo, hlo⟩ : ∃ lo, x * y % 18446744073709551616 = lo := ⟨_, rfl⟩
  obtain ⟨hi, hhi⟩ : ∃ hi, x * y / 18446744073709551616 = hi := ⟨_, rfl⟩
  have hl : lo < 18446744073709551616 := by omega
  have s1 : (x * y + c) % 18446744073709551616 = (lo + c) % 18446744073709551616 := by omega
  have s2 : (x * y + c) / 18446744073709551616 = hi + (lo + c) / 18446744073709551616 := by omega
  have s3 : hi + (lo + c) / 18446744073709551616 ≤ 18446744073709551615 := by omega
  rw [s1, s2]
  have H1 := mul_any x y hx hy w
  have H2 := add_any lo c hl hc w
  rw [hlo, hhi] at H1
  clear hxy hlo hhi s1 s2 hx hy hc hl
  generalize (lo + c) % 18446744073709551616 = l2 at *
  generalize (lo + c) / 18446744073709551616 = h2 at *
  have HH1 := Go.Lib.hid H1
  have HH2 := Go.Lib.hid H2
  have hw2 : IntKind.u64.wrap ((hi : Int) + (h2 : Int)) = ((hi + h2 : Nat) : Int) := by rw [IntWalk.u64_in _ (by omega)]; omega
  clear H1 H2 s3
  go_enter Tryz.func119, Tryz.ntmps119
  go_wp2_with (fail)
  refine HH1.out.mono ?_
  rintro e w1 ⟨rfl, hw⟩
  replace hw := hw.symm
  subst hw
  go_wp2_with (fail)
  refine HH2.out.mono ?_
  rintro e w1 ⟨rfl, hw⟩
  replace hw := hw.symm
  subst hw
  go_wp2_with (fail)
  go_ret2
  exact ⟨by simp, rfl⟩
end Go.Proofs.YthmopakaikhjlaaGreatDoor
