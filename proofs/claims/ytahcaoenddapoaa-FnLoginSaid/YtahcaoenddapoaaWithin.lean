/- spec.within at four bytes. -/
import Derived.Test.YtahcaoenddapoaaBase
namespace Go.Proofs.Ytahcaoenddapoaa
open Go.RowKit

set_option maxRecDepth 100000 in
set_option maxHeartbeats 2000000 in
theorem within4_any (z : Int) (w : World) : Calls Try.prog 46 #[.int .i64 z, .int .i64 4] w fun e w' => e = .returned (.bool (decide (-2147483648 ≤ z ∧ z ≤ 2147483647))) ∧ w' = w := by
  have hund : undef = Value.tuple #[] := rfl
  by_cases h1 : -2147483648 ≤ z
  · by_cases h2 : z ≤ 2147483647
    · have hd : decide (-2147483648 ≤ z ∧ z ≤ 2147483647) = true := by simp; omega
      rw [hd]
      go_enter Try.func46, Try.ntmps46
      go_wp2
      go_ret
      exact ⟨rfl, rfl⟩
    · have hd : decide (-2147483648 ≤ z ∧ z ≤ 2147483647) = false := by simp; omega
      rw [hd]
      go_enter Try.func46, Try.ntmps46
      go_wp2
      go_ret
      exact ⟨rfl, rfl⟩
  · have hd : decide (-2147483648 ≤ z ∧ z ≤ 2147483647) = false := by simp; omega
    rw [hd]
    go_enter Try.func46, Try.ntmps46
    go_wp2
    go_ret
    exact ⟨rfl, rfl⟩
end Go.Proofs.Ytahcaoenddapoaa
