/- Package time: moments. -/
import Derived.Test.YtahcaoenddapoaaTm
import Derived.Deep.RegionHeld3
import Derived.StillTailTactics
namespace Go.Proofs.Ytahcaoenddapoaa
open Go.RowKit

/-- A moment: its nanoseconds, its seconds since the year 1, where. -/
@[reducible] def tv (n E : Nat) (l : Value) : Value := .agg #[.int .u64 (n : Int), .int .i64 (E : Int), l]

theorem and_top (n : Nat) (h : n < 1073741824) : bits .and .u64 (n : Int) 9223372036854775808 = 0 := by
  show IntKind.u64.wrap ((BitVec.ofInt 64 (n : Int) &&& BitVec.ofInt 64 9223372036854775808).toNat : Int) = 0
  have h1 : (BitVec.ofInt 64 (n : Int)).toNat = n := by
    rw [BitVec.ofInt_natCast, BitVec.toNat_ofNat]; exact Nat.mod_eq_of_lt (by omega)
  have h2 : (BitVec.ofInt 64 9223372036854775808).toNat = 2 ^ 63 := by decide
  have h3 : n &&& 2 ^ 63 = 0 := by
    apply Nat.eq_of_testBit_eq
    intro i
    rw [Nat.testBit_and, Nat.zero_testBit, Nat.testBit_two_pow]
    by_cases hi : 63 = i
    · subst hi
      have : n.testBit 63 = false := Nat.testBit_lt_two_pow (by omega)
      simp [this]
    · simp [hi]
  rw [BitVec.toNat_and, h1, h2, h3]
  rfl

theorem and_low (n : Nat) (h : n < 1073741824) : bits .and .u64 (n : Int) 1073741823 = (n : Int) := by
  show IntKind.u64.wrap ((BitVec.ofInt 64 (n : Int) &&& BitVec.ofInt 64 1073741823).toNat : Int) = (n : Int)
  have h1 : (BitVec.ofInt 64 (n : Int)).toNat = n := by
    rw [BitVec.ofInt_natCast, BitVec.toNat_ofNat]; exact Nat.mod_eq_of_lt (by omega)
  have h2 : (BitVec.ofInt 64 1073741823).toNat = 2 ^ 30 - 1 := by decide
  rw [BitVec.toNat_and, h1, h2, Nat.and_two_pow_sub_one_eq_mod, Nat.mod_eq_of_lt (by omega), IntKind.wrap_u64]
  omega

set_option maxRecDepth 100000 in
theorem sec_any (b n E : Nat) (hn : n < 1073741824) (w : World) (c0 : w.cell? ⟨b, 0, none⟩ = some (.int .u64 (n : Int))) (c1 : w.cell? ⟨b, 1, none⟩ = some (.int .i64 (E : Int))) :
    Calls Try.prog 160 #[.pointer (some ⟨b, 0, none⟩)] w fun e w' => e = .returned (.int .i64 (E : Int)) ∧ w' = w := by
  have h := and_top n hn
  go_enter Try.func160, Try.ntmps160
  go_wp2
  go_ret
  simp

set_option maxRecDepth 100000 in
theorem nsec_any (b n : Nat) (hn : n < 1073741824) (w : World) (c0 : w.cell? ⟨b, 0, none⟩ = some (.int .u64 (n : Int))) :
    Calls Try.prog 154 #[.pointer (some ⟨b, 0, none⟩)] w fun e w' => e = .returned (.int .i32 (n : Int)) ∧ w' = w := by
  have h := and_low n hn
  go_enter Try.func154, Try.ntmps154
  go_wp2
  go_ret
  simp

set_option maxRecDepth 100000 in
theorem unixSec_any (b n E : Nat) (hn : n < 1073741824) (hE : E ≤ 1000000000000) (w : World) (c0 : w.cell? ⟨b, 0, none⟩ = some (.int .u64 (n : Int))) (c1 : w.cell? ⟨b, 1, none⟩ = some (.int .i64 (E : Int))) :
    Calls Try.prog 172 #[.pointer (some ⟨b, 0, none⟩)] w fun e w' => e = .returned (.int .i64 ((E : Int) - 62135596800)) ∧ w' = w := by
  go_enter Try.func172, Try.ntmps172
  go_wp2_with (fail)
  refine (sec_any b n E hn _ c0 c1).mono ?_
  rintro e w' ⟨rfl, rfl⟩
  go_wp2
  go_ret
  simp <;> omega

/-- The location of UTC, as the program makes it. -/
def utcObj : Obj := .cells #[.bool true, .string ⟨#[85, 84, 67]⟩, .slice none 0 0, .slice none 0 0, .string ⟨#[]⟩, .int .i64 0, .int .i64 0, .pointer none] 173

set_option maxRecDepth 100000 in
theorem utc_any (w : World) : Calls Try.prog 95 #[] w fun e w' => e = .returned (.pointer (some ⟨w.heap.size, 0, none⟩)) ∧ w' = w.alloc utcObj := by
  unfold utcObj
  go_enter Try.func95, Try.ntmps95
  go_wp2
  go_ret
  simp

set_option maxRecDepth 100000 in
theorem get_any (w : World) : Calls Try.prog 171 #[.pointer none] w fun e w' => e = .returned (.pointer (some ⟨w.heap.size, 0, none⟩)) ∧ w' = w.alloc utcObj := by
  go_enter Try.func171, Try.ntmps171
  go_wp2_with (fail)
  refine (utc_any _).mono ?_
  rintro e w' ⟨rfl, rfl⟩
  go_wp2
  go_ret
  simp

theorem utc_cell (w : World) (j : Nat) : (w.alloc utcObj).cell? ⟨w.heap.size, j, none⟩ = (#[Value.bool true, .string ⟨#[85, 84, 67]⟩, .slice none 0 0, .slice none 0 0, .string ⟨#[]⟩, .int .i64 0, .int .i64 0, .pointer none])[j]? := cell_of_row _ _ j _ _ _ (heap_alloc_new _ _)
end Go.Proofs.Ytahcaoenddapoaa
