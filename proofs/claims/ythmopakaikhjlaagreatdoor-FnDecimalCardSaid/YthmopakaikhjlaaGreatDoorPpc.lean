/- spec.DecimalColumn at wrong precisions; spec.ProperCell at a decimal. -/
import Derived.Test.YthmopakaikhjlaaGreatDoorMgn
import Derived.Test.YthmopakaikhjlaaGreatDoorDgt
namespace Go.Proofs.YthmopakaikhjlaaGreatDoor
open Go.RowKit

set_option maxRecDepth 100000 in
theorem column_bad (p s : Int) (hp : p < 1 ∨ 38 < p) (w : World) : Calls Tryz.prog 4 #[.int .i64 p, .int .i64 s] w fun e w' => e = .returned (.tuple #[.agg #[.int .i64 0, .int .i64 0, .int .i64 0, .int .i64 0, .int .i64 0, .string ⟨#[]⟩], .bool false]) ∧ Fresh w w' := by
  by_cases h1 : p < 1
  · go_enter Tryz.func4, Tryz.ntmps4
    go_wp2
    exact bodyPost_ret (v := .tuple #[.agg #[.int .i64 0, .int .i64 0, .int .i64 0, .int .i64 0, .int .i64 0, .string ⟨#[]⟩], .bool false]) (by simp [results, Tryz.results4, go_sem]) rfl ⟨rfl, (Kept.refl w _).alloc _⟩
  · have h2 : 38 < p := by omega
    go_enter Tryz.func4, Tryz.ntmps4
    go_wp2
    exact bodyPost_ret (v := .tuple #[.agg #[.int .i64 0, .int .i64 0, .int .i64 0, .int .i64 0, .int .i64 0, .string ⟨#[]⟩], .bool false]) (by simp [results, Tryz.results4, go_sem]) rfl ⟨rfl, (Kept.refl w _).alloc _⟩

theorem column_good (p : Nat) (s : Int) (hp0 : 1 ≤ p) (hp : p ≤ 38) (w : World) : Calls Tryz.prog 4 #[.int .i64 (p : Int), .int .i64 s] w fun e w' => e = .returned (.tuple #[colv (1 + (mag p : Int)) (p : Int) s, .bool (decide (0 ≤ s ∧ s ≤ (p : Int)))]) ∧ Fresh w w' := by
  by_cases h1 : 0 ≤ s
  · by_cases h2 : s ≤ (p : Int)
    · rw [decide_eq_true ⟨h1, h2⟩]
      exact column_of p s _ true hp0 hp rfl (known_good p s _ hp0 hp rfl h1 h2) w
    · rw [decide_eq_false (fun h => h2 h.2)]
      exact column_of p s _ false hp0 hp rfl (known_big p s _ hp0 hp rfl h1 (by omega)) w
  · rw [decide_eq_false (fun h => h1 h.1)]
    exact column_of p s _ false hp0 hp rfl (known_neg p s _ hp0 hp rfl (by omega)) w

set_option maxRecDepth 100000 in
set_option maxHeartbeats 1000000 in
theorem proper_any (d : ByteArray) (p : Nat) (sz s : Int) (hs : d.size ≤ 2147483647) (hp : p ≤ 38) (w : World) : Calls Tryz.prog 5 #[colv sz (p : Int) s, cellv d] w fun e w' => Ans e (Okd d p) ∧ Fresh w w' := by
  have hund : undef = Value.tuple #[] := rfl
  have hF0 : Fresh w ((w.alloc (.cells #[.int .i64 0, .int .i64 106, .int .i64 sz, .int .i64 (p : Int), .int .i64 s, .string ⟨#[]⟩] 23)).alloc (.cells #[.bool false, .int .i64 0, .float .f64 0, .string ⟨#[]⟩, .slice none 0 0, .string d, .int .i64 0, .int .i64 0, .int .i64 0] 30)) := ((Kept.refl w _).alloc _).alloc _
  have HF0 := Go.Lib.hid hF0
  have HS := Go.Lib.hid hs
  clear hF0 hs
  go_enter Tryz.func5, Tryz.ntmps5
  go_wp2_with (fail)
  refine (digits_any d p HS.out hp _).mono ?_
  rintro e w1 ⟨⟨b, rfl, hb⟩, rfl⟩
  have HB := Go.Lib.hid hb
  clear hb
  go_wp2
  go_ret
  exact ⟨⟨b, rfl, HB.out⟩, HF0.out⟩
end Go.Proofs.YthmopakaikhjlaaGreatDoor
