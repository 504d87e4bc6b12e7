/- spec.Raw, spec.TimeColumns. -/
import Derived.Test.YtahcaoenddapoaaDoorRaw2
namespace Go.Proofs.YtahcaoenddapoaaDoor
open Go.RowKit

set_option maxRecDepth 100000 in
theorem Raw_any (k sz s d N o : Int) (l : List Nat) (h : ∀ w : World, Calls Tryd.prog 26 #[colv k sz s, cellv d N o] w fun e w' => ∃ v, e = .returned v ∧ Bts w' v l ∧ Fresh w w') (w : World) :
    Calls Tryd.prog 8 #[colv k sz s, cellv d N o] w fun e w' => ∃ v, e = .returned v ∧ Bts w' v l ∧ Fresh w w' := by
  have hF0 : Fresh w ((w.alloc (.cells #[.int .i64 0, .int .i64 k, .int .i64 sz, .int .i64 0, .int .i64 s, .string ⟨#[]⟩] 27)).alloc (.cells #[.bool false, .int .i64 0, .float .f64 0, .string ⟨#[]⟩, .slice none 0 0, .string ⟨#[]⟩, .int .i64 d, .int .i64 N, .int .i64 o] 25)) := ((Kept.refl w _).alloc _).alloc _
  have HF := Go.Lib.hid hF0
  have H := Go.Lib.hid h
  clear hF0 h
  go_enter Tryd.func8, Tryd.ntmps8
  go_wp2_with (fail)
  refine (H.out _).mono ?_
  rintro e w1 ⟨v, rfl, hb, hF⟩
  have HB := Go.Lib.hid hb
  have HF1 := Go.Lib.hid (HF.out.fresh hF)
  clear hb hF
  go_wp2
  go_ret
  exact ⟨v, rfl, HB.out, HF1.out⟩

set_option maxRecDepth 100000 in
theorem columns_good (s : Nat) (hs : s ≤ 7) (w : World) : Calls Tryd.prog 4 #[.int .i64 (s : Int)] w fun e w' => e = .returned (.tuple #[colv 40 3 0, colv 41 (tsz s : Int) (s : Int), colv 42 ((tsz s : Int) + 3) (s : Int), colv 43 ((tsz s : Int) + 5) (s : Int), .bool true]) ∧ Fresh w w' := by
  have h1 : ¬ (s : Int) < 0 := by omega
  have h2 : (s : Int) ≤ 7 := by omega
  have h3 : (tsz s : Int) ≤ 5 := by unfold tsz; split <;> (try split) <;> decide
  have h4 : (0 : Int) ≤ (tsz s : Int) := Int.natCast_nonneg _
  go_enter Tryd.func4, Tryd.ntmps4
  go_wp2_with (fail)
  refine (clock_any s hs _).mono ?_
  rintro e w1 ⟨rfl, rfl⟩
  generalize hz : (tsz s : Int) = z at *
  have HZ := Go.Lib.hid hz
  clear hz
  go_wp2
  refine bodyPost_ret (v := .tuple #[colv 40 3 0, colv 41 z (s : Int), colv 42 (z + 3) (s : Int), colv 43 (z + 5) (s : Int), .bool true]) (by simp [results, Tryd.results4, go_sem, World.cell?_alloc_past]) rfl ⟨by rw [HZ.out], ((((Kept.refl w _).alloc _).alloc _).alloc _).alloc _⟩

set_option maxRecDepth 100000 in
theorem columns_bad (s : Int) (hs : s < 0 ∨ 7 < s) (w : World) : Calls Tryd.prog 4 #[.int .i64 s] w fun e w' => e = .returned (.tuple #[colv 0 0 0, colv 0 0 0, colv 0 0 0, colv 0 0 0, .bool false]) ∧ Fresh w w' := by
  by_cases h1 : s < 0
  · go_enter Tryd.func4, Tryd.ntmps4
    go_wp2
    exact bodyPost_ret (v := .tuple #[colv 0 0 0, colv 0 0 0, colv 0 0 0, colv 0 0 0, .bool false]) (by simp [results, Tryd.results4, go_sem, World.cell?_alloc_past]) rfl ⟨rfl, ((((Kept.refl w _).alloc _).alloc _).alloc _).alloc _⟩
  · have h2 : 7 < s := by omega
    go_enter Tryd.func4, Tryd.ntmps4
    go_wp2
    exact bodyPost_ret (v := .tuple #[colv 0 0 0, colv 0 0 0, colv 0 0 0, colv 0 0 0, .bool false]) (by simp [results, Tryd.results4, go_sem, World.cell?_alloc_past]) rfl ⟨rfl, ((((Kept.refl w _).alloc _).alloc _).alloc _).alloc _⟩
end Go.Proofs.YtahcaoenddapoaaDoor
