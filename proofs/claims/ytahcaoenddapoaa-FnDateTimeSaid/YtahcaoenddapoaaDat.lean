/- Package time: Date, at the first of January 1900. -/
import Derived.Test.YtahcaoenddapoaaDtm
namespace Go.Proofs.Ytahcaoenddapoaa
open Go.RowKit

set_option maxRecDepth 100000 in
theorem norm_any (hi lo base : Int) (h0 : 0 ≤ lo) (h1 : lo < base) (w : World) : Calls Try.prog 156 #[.int .i64 hi, .int .i64 lo, .int .i64 base] w fun e w' => e = .returned (.tuple #[.int .i64 hi, .int .i64 lo]) ∧ w' = w := by
  go_enter Try.func156, Try.ntmps156
  go_wp2
  go_ret2
  simp

set_option maxRecDepth 100000 in
theorem absDay1900 (w : World) : Calls Try.prog 157 #[.int .i64 1900, .int .i64 1, .int .i64 1] w fun e w' => e = .returned (.int .u64 106751991047833) ∧ w' = w := by
  go_enter Try.func157, Try.ntmps157
  go_wp2
  go_ret
  simp

set_option maxRecDepth 100000 in
theorem lookup_q (q : Nat) (s : Int) (w : World) (c2 : w.cell? ⟨q, 2, none⟩ = some (.slice none 0 0)) : Calls Try.prog 158 #[.pointer (some ⟨q, 0, none⟩), .int .i64 s] w fun e w' => (∃ nm x y, e = .returned (.tuple #[.string nm, .int .i64 0, x, y, .bool false])) ∧ w' = w := by
  go_enter Try.func158, Try.ntmps158
  go_wp2_with (fail)
  refine (get_loc q _).mono ?_
  rintro e w1 ⟨rfl, rfl⟩
  go_wp2
  exact bodyPost_ret (v := .tuple #[.string ⟨#[85, 84, 67]⟩, .int .i64 0, .int .i64 (-9223372036854775808), .int .i64 9223372036854775807, .bool false]) (by simp [results, Try.results158, go_sem]) rfl ⟨⟨_, _, _, rfl⟩, rfl⟩

theorem unixTime0 (u : Int) (E : Nat) (hu : u + 62135596800 = (E : Int)) (hE : E ≤ 1000000000000) (w : World) : Calls Try.prog 118 #[.int .i64 u, .int .i32 0] w fun e w' => e = .returned (tv0 E (.pointer none)) ∧ Fresh w w' := unixTime_any 0 u E (by decide) hu hE w
theorem setLoc0 (b q : Nat) (w : World) {o : Value} (c0 : w.cell? ⟨b, 0, none⟩ = some (.int .u64 0)) (c2 : w.cell? ⟨b, 2, none⟩ = some o) (f2 : w.frozen? ⟨b, 2, none⟩ = false) (cq : w.cell? ⟨q, 0, none⟩ = some (.bool true)) :
    Calls Try.prog 119 #[.pointer (some ⟨b, 0, none⟩), .pointer (some ⟨q, 0, none⟩)] w fun e w' => e = .returned (.tuple #[]) ∧ w' = w.setCell ⟨b, 2, none⟩ (.pointer none) := setLoc_any b 0 q true (by decide) w c0 c2 f2 cq

set_option maxRecDepth 100000 in
set_option maxHeartbeats 400000 in
theorem Date1900 (q E0 : Nat) (hE0 : (E0 : Int) = 59926608000) (w : World) (c0 : w.cell? ⟨q, 0, none⟩ = some (.bool true)) (c2 : w.cell? ⟨q, 2, none⟩ = some (.slice none 0 0)) :
    Calls Try.prog 121 #[.int .i64 1900, .int .i64 1, .int .i64 1, .int .i64 0, .int .i64 0, .int .i64 0, .int .i64 0, .pointer (some ⟨q, 0, none⟩)] w fun e w' => e = .returned (tv0 E0 (.pointer none)) ∧ Fresh w w' := by
  have hT0 := T3.new w (.int .u64 0) (.int .i64 0) (.pointer none) 100
  have hF0 : Fresh w (w.alloc (.cells #[.int .u64 0, .int .i64 0, .pointer none] 100)) := (Kept.refl w _).alloc _
  have d0 := hF0.held c0 (fun h => h)
  have d2 := hF0.held c2 (fun h => h)
  have HE0 := Go.Lib.hid hE0
  clear c0 c2 hE0
  go_enter Try.func121, Try.ntmps121
  go_upto_region 1 with (fail)
  generalize (w.alloc (.cells #[.int .u64 0, .int .i64 0, .pointer none] 100)) = W at *
  go_wp2_with (fail)
  refine (norm_any 1900 0 12 (by decide) (by decide) _).mono ?_
  rintro e w1 ⟨rfl, rfl⟩
  go_wp2_with (fail)
  refine (norm_any 0 0 1000000000 (by decide) (by decide) _).mono ?_
  rintro e w2 ⟨rfl, rfl⟩
  go_wp2_with (fail)
  refine (norm_any 0 0 60 (by decide) (by decide) _).mono ?_
  rintro e w3 ⟨rfl, rfl⟩
  go_wp2_with (fail)
  refine (norm_any 0 0 60 (by decide) (by decide) _).mono ?_
  rintro e w4 ⟨rfl, rfl⟩
  go_wp2_with (fail)
  refine (norm_any 1 0 24 (by decide) (by decide) _).mono ?_
  rintro e w5 ⟨rfl, rfl⟩
  go_wp2_with (fail)
  refine (absDay1900 _).mono ?_
  rintro e w6 ⟨rfl, rfl⟩
  go_wp2_with (fail)
  refine (lookup_q q _ _ d2).mono ?_
  rintro e w7 ⟨⟨nm, x, y, rfl⟩, rfl⟩
  go_wp2_with (fail)
  refine (unixTime0 _ E0 (by have := HE0.out; omega) (by have := HE0.out; omega) _).mono ?_
  rintro e w8 ⟨rfl, hF8⟩
  have hA := T3.new w8 (.int .u64 0) (.int .i64 (E0 : Int)) (.pointer none) 100
  have hF9 : Fresh w8 (w8.alloc (.cells #[.int .u64 0, .int .i64 (E0 : Int), .pointer none] 100)) := (Kept.refl w8 _).alloc _
  have hT1 := (hT0.fresh hF8).fresh hF9
  have hFw := (hF0.fresh hF8).fresh hF9
  have d3 := hF9.held (hF8.held d0 (fun h => h)) (fun h => h)
  have hlt := T3.lt (hT0.fresh hF8)
  have HLT := Go.Lib.hid hlt
  clear hT0 hF0 d0 d2 hF8 hF9 hlt
  go_wp2_with (fail)
  generalize (w8.alloc (.cells #[.int .u64 0, .int .i64 (E0 : Int), .pointer none] 100)) = X at *
  obtain ⟨a0, a1, a2, a3, a4, a5⟩ := hA
  refine (setLoc0 w8.heap.size q _ a0 a2 a5 d3).mono ?_
  rintro e w9 ⟨rfl, rfl⟩
  have hB := (T3.mk a0 a1 a2 a3 a4 a5).set2 (.pointer none)
  have hk : Kept X (X.setCell ⟨w8.heap.size, 2, none⟩ (.pointer none)) (fun k => k = w8.heap.size) := (Kept.refl X (fun k => k = w8.heap.size)).setCell (p := ⟨w8.heap.size, 2, none⟩) (.inl rfl) _
  have hT2 := hT1.kept hk (by have := HLT.out; omega)
  have hFx : Fresh w (X.setCell ⟨w8.heap.size, 2, none⟩ (.pointer none)) := fresh_set hFw (by have := HLT.out; show w.heap.size ≤ w8.heap.size; omega) _
  generalize (X.setCell ⟨w8.heap.size, 2, none⟩ (.pointer none)) = Y at *
  have HT := Go.Lib.hid (hT2.set (.int .u64 0) (.int .i64 (E0 : Int)) (.pointer none))
  obtain ⟨b0, b1, b2, b3, b4, b5⟩ := hB
  obtain ⟨e0, e1, e2, e3, e4, e5⟩ := hT2
  clear hk hT1 a0 a1 a2 a3 a4 a5 hFw d3
  go_wp2
  obtain ⟨r0, r1, r2, _, _, _⟩ := HT.out
  exact bodyPost_ret (v := tv0 E0 (.pointer none)) (by simp [results, Try.results121, go_sem, r0, r1, r2]) rfl ⟨rfl, fresh_set (fresh_set (fresh_set hFx (Nat.le_refl _) _) (Nat.le_refl _) _) (Nat.le_refl _) _⟩
end Go.Proofs.Ytahcaoenddapoaa
