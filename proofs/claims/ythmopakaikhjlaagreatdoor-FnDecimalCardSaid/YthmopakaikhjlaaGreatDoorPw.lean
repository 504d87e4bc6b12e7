/- pow, maxPow. -/
import Derived.Test.YthmopakaikhjlaaGreatDoorAr
namespace Go.Proofs.YthmopakaikhjlaaGreatDoor
open Go.RowKit

theorem and_one (a : Nat) (ha : a < 1000) : bits .and .i64 (a : Int) 1 = ((a % 2 : Nat) : Int) := by
  have h1 : (BitVec.ofInt 64 (a : Int)).toNat = a := by
    rw [BitVec.ofInt_natCast, BitVec.toNat_ofNat]; exact Nat.mod_eq_of_lt (by omega)
  have h2 : (BitVec.ofInt 64 (1 : Int)).toNat = 2 ^ 1 - 1 := by decide
  show IntKind.i64.wrap ((BitVec.ofInt 64 (a : Int) &&& BitVec.ofInt 64 (1 : Int)).toNat : Int) = _
  rw [BitVec.toNat_and, h1, h2, Nat.and_two_pow_sub_one_eq_mod]
  exact IntWalk.i64_in _ (by omega)

theorem pow_step (B p x n : Nat) : ((if n % 2 = 1 then p * x % B else p) * (x * x % B) ^ (n / 2)) % B = p * x ^ n % B := by
  have h1 : ((x * x % B) ^ (n / 2)) % B = (x ^ (2 * (n / 2))) % B := by
    rw [← Nat.pow_mod, Nat.pow_mul, Nat.pow_two]
  have hn : n = 2 * (n / 2) + n % 2 := by omega
  by_cases h : n % 2 = 1
  · rw [if_pos h, Nat.mul_mod, h1, Nat.mod_mod, ← Nat.mul_mod]
    conv => rhs; rw [hn, h, Nat.pow_add, Nat.pow_one]
    congr 1
    rw [Nat.mul_assoc, Nat.mul_comm x]
  · have h0 : n % 2 = 0 := by omega
    rw [if_neg h, Nat.mul_mod, h1, ← Nat.mul_mod]
    conv => rhs; rw [hn, h0, Nat.add_zero]

set_option maxRecDepth 100000 in
set_option maxHeartbeats 1000000 in
theorem pow_any (n : Nat) (hn : n ≤ 18) (w : World) : Calls Tryz.prog 88 #[.int .u64 10, .int .i64 n] w fun e w' => e = .returned (.int .u64 ((10 ^ n : Nat) : Int)) ∧ w' = w := by
  have h10 : 10 ^ n < 18446744073709551616 := Nat.lt_of_le_of_lt (Nat.pow_le_pow_right (by decide) hn) (by decide)
  obtain ⟨T, hT⟩ : ∃ T, 10 ^ n = T := ⟨_, rfl⟩
  have HT := Go.Lib.hid (And.intro hT h10)
  rw [hT]
  clear h10 hT
  go_enter Tryz.func88, Tryz.ntmps88
  go_wp2_with (fail)
  go_loopw [0, 1, 4] (fun a b c wr => ∃ (x m p : Nat), a = .int .u64 (x : Int) ∧ b = .int .i64 (m : Int) ∧ c = .int .u64 (p : Int) ∧ m ≤ 18 ∧ p < 18446744073709551616 ∧ x < 18446744073709551616 ∧ p * x ^ m % 18446744073709551616 = 10 ^ n % 18446744073709551616 ∧ wr = w) (fun _ b _ _ => (intOf b).toNat)
  case atStart => exact ⟨10, n, 1, rfl, rfl, rfl, hn, by decide, by decide, by rw [Nat.one_mul], rfl⟩
  case round =>
    obtain ⟨x, m, p, rfl, rfl, rfl, hm, hp, hx, hv, hw⟩ := hrel
    replace hw := hw.symm
    subst hw
    have hpx : p * x ≤ 18446744073709551615 * 18446744073709551615 := Nat.mul_le_mul (by omega) (by omega)
    have w1 : IntKind.u64.wrap ((p : Int) * (x : Int)) = ((p * x % 18446744073709551616 : Nat) : Int) := by
      rw [← Int.natCast_mul, IntKind.wrap_u64]; omega
    have w2 : IntKind.u64.wrap ((x : Int) * (x : Int)) = ((x * x % 18446744073709551616 : Nat) : Int) := by
      rw [← Int.natCast_mul, IntKind.wrap_u64]; omega
    have hs := pow_step 18446744073709551616 p x m
    rw [hv] at hs
    have hlt1 : p * x % 18446744073709551616 < 18446744073709551616 := Nat.mod_lt _ (by decide)
    have hlt2 : x * x % 18446744073709551616 < 18446744073709551616 := Nat.mod_lt _ (by decide)
    have ha := and_one m (by omega)
    generalize p * x % 18446744073709551616 = px at *
    generalize x * x % 18446744073709551616 = xx at *
    have HS := Go.Lib.hid (And.intro hs (And.intro hlt1 (And.intro hlt2 (And.intro hp (And.intro hx hv)))))
    clear hs hlt1 hlt2 hp hx hv hpx
    by_cases h0 : 0 < m
    · have i0 : (0 : Int) < (m : Int) := by omega
      by_cases h1 : m % 2 = 1
      · rw [h1] at ha
        have ha' : bits .and .i64 (m : Int) 1 = 1 := ha
        clear ha
        go_wp2_with (fail)
        go_roundw
        case rel =>
          have h := HS.out.1
          rw [if_pos h1] at h
          exact ⟨xx, m / 2, px, rfl, by congr 1, rfl, by omega, HS.out.2.1, HS.out.2.2.1, h, trivial⟩
        case measure => simp [intOf]; omega
      · have h2 : m % 2 = 0 := by omega
        rw [h2] at ha
        have ha' : bits .and .i64 (m : Int) 1 = 0 := ha
        clear ha
        go_wp2_with (fail)
        go_roundw
        case rel =>
          have h := HS.out.1
          rw [if_neg h1] at h
          exact ⟨xx, m / 2, p, rfl, by congr 1, rfl, by omega, HS.out.2.2.2.1, HS.out.2.2.1, h, trivial⟩
        case measure => simp [intOf]; omega
    · obtain rfl : m = 0 := by omega
      have hpT : p = T := by
        have h1 := HS.out.2.2.2.2.2
        have h2 := HT.out
        have h3 := HS.out.2.2.2.1
        rw [Nat.pow_zero, Nat.mul_one, h2.1] at h1
        omega
      subst hpT
      clear w1 w2 ha
      go_wp2_with (fail)
      go_ret
      exact ⟨rfl, rfl⟩

set_option maxRecDepth 100000 in
set_option maxHeartbeats 1000000 in
theorem maxPow_any (w : World) : Calls Tryz.prog 87 #[.int .u64 10] w fun e w' => e = .returned (.tuple #[.int .u64 10000000000000000000, .int .i64 19]) ∧ w' = w := by
  go_enter Tryz.func87, Tryz.ntmps87
  go_wp2_with (fail)
  go_loopw [2, 3] (fun a b wr => ∃ (p n : Nat), a = .int .u64 (p : Int) ∧ b = .int .i64 (n : Int) ∧ p = 10 ^ n ∧ 1 ≤ n ∧ n ≤ 19 ∧ wr = w) (fun _ b _ => 20 - (intOf b).toNat)
  case atStart => exact ⟨10, 1, rfl, rfl, rfl, by decide, by decide, rfl⟩
  case round =>
    obtain ⟨p, n, rfl, rfl, hp, h1, hn, hw⟩ := hrel
    replace hw := hw.symm
    subst hw
    have HP := Go.Lib.hid hp
    by_cases h : p ≤ 1844674407370955161
    · have i1 : (p : Int) ≤ 1844674407370955161 := by omega
      have hn18 : n ≤ 18 := by
        refine Nat.le_of_lt_succ (Nat.lt_of_le_of_ne hn fun e => ?_)
        subst e
        rw [hp] at h
        exact absurd h (by decide)
      have w1 : IntKind.u64.wrap ((p : Int) * 10) = ((p * 10 : Nat) : Int) := by rw [IntWalk.u64_in _ (by omega)]; omega
      clear hp
      go_wp2_with (fail)
      go_roundw
      case rel => exact ⟨p * 10, n + 1, by simp, by simp, by rw [HP.out, Nat.pow_succ], by omega, by omega, trivial⟩
      case measure => simp [intOf]; omega
    · have i1 : ¬ (p : Int) ≤ 1844674407370955161 := by omega
      have hn19 : n = 19 := by
        refine Nat.le_antisymm hn (Nat.lt_of_not_le fun h18 => h ?_)
        rw [hp]
        exact Nat.le_trans (Nat.pow_le_pow_right (by decide) h18) (by decide)
      subst hn19
      have hp19 : (p : Int) = 10000000000000000000 := by rw [hp]; rfl
      clear hp
      go_wp2_with (fail)
      go_ret2
      exact ⟨by simp, rfl⟩
end Go.Proofs.YthmopakaikhjlaaGreatDoor
