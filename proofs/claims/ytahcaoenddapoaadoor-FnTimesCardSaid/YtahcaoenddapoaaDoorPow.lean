/- math.Pow10, at the negative exponents of a scale. (Printed by genpow.py.) -/
import Derived.Test.YtahcaoenddapoaaDoorTm6
import Derived.BigQuiet
import Derived.Laws.FloatArith
namespace Go.Proofs.YtahcaoenddapoaaDoor
open Go.RowKit

/-- The tables of math.Pow10, as far as they are read here. -/
structure Pw (w : World) : Prop where
  p0 : w.cell? ⟨1, 0, none⟩ = some (.float .f64 4607182418800017408)
  n0 : w.cell? ⟨3, 0, none⟩ = some (.float .f64 4607182418800017408)
  t0 : w.cell? ⟨2, 0, none⟩ = some (.float .f64 4607182418800017408)
  t1 : w.cell? ⟨2, 1, none⟩ = some (.float .f64 4621819117588971520)
  t2 : w.cell? ⟨2, 2, none⟩ = some (.float .f64 4636737291354636288)
  t3 : w.cell? ⟨2, 3, none⟩ = some (.float .f64 4652007308841189376)
  t4 : w.cell? ⟨2, 4, none⟩ = some (.float .f64 4666723172467343360)
  t5 : w.cell? ⟨2, 5, none⟩ = some (.float .f64 4681608360884174848)
  t6 : w.cell? ⟨2, 6, none⟩ = some (.float .f64 4696837146684686336)
  t7 : w.cell? ⟨2, 7, none⟩ = some (.float .f64 4711630319722168320)

theorem Pw.fresh {w w' : World} (h : Pw w) (hk : Fresh w w') : Pw w' :=
  ⟨hk.held h.p0 (fun h => h), hk.held h.n0 (fun h => h), hk.held h.t0 (fun h => h), hk.held h.t1 (fun h => h), hk.held h.t2 (fun h => h), hk.held h.t3 (fun h => h), hk.held h.t4 (fun h => h), hk.held h.t5 (fun h => h), hk.held h.t6 (fun h => h), hk.held h.t7 (fun h => h)⟩

theorem mul_0 (W : World) : (binOp .mul 22 (.float .f64 4607182418800017408) (.float .f64 4741671816366391296)).run Tryd.prog W = .ok (.float .f64 4741671816366391296) W := run_float_arith W .mul 22 .f64 _ _ _ (by kernel_rfl)
theorem int_0 (W : World) : (convert 22 2 (.float .f64 4741671816366391296)).run Tryd.prog W = .ok (.int .i64 1000000000) W := run_convert_float_int W 22 2 .f64 .i64 _ _ (by kernel_rfl) Tryd.underlying2 (by kernel_rfl)

set_option maxRecDepth 100000 in
theorem pow10_0 (w : World) (h : Pw w) : Calls Tryd.prog 72 #[.int .i64 0] w fun e w' => e = .returned (.float .f64 4607182418800017408) ∧ ∃ q, w' = w.drewN q := by
  have c0 := h.p0
  have ct := h.t0
  have hf : ∀ W : World, (binOp .mul 22 (.float .f64 4607182418800017408) (.float .f64 4607182418800017408)).run Tryd.prog W = .ok (.float .f64 4607182418800017408) W := fun W => run_float_arith W .mul 22 .f64 _ _ _ (by kernel_rfl)
  have a2 : IntKind.u64.wrap 0 = 0 := rfl
  have a3 : (0 : Int).tdiv 32 = 0 := rfl
  have a5 : (0 : Int).tmod 32 = 0 := rfl
  go_enter Tryd.func72, Tryd.ntmps72
  go_wp2_with (fail)
  go_quiet (fail)
  go_wp2
  go_ret
  exact ⟨rfl, _, rfl⟩

theorem mul_1 (W : World) : (binOp .mul 22 (.float .f64 4591870180066957722) (.float .f64 4741671816366391296)).run Tryd.prog W = .ok (.float .f64 4726483295884279808) W := run_float_arith W .mul 22 .f64 _ _ _ (by kernel_rfl)
theorem int_1 (W : World) : (convert 22 2 (.float .f64 4726483295884279808)).run Tryd.prog W = .ok (.int .i64 100000000) W := run_convert_float_int W 22 2 .f64 .i64 _ _ (by kernel_rfl) Tryd.underlying2 (by kernel_rfl)

set_option maxRecDepth 100000 in
theorem pow10_1 (w : World) (h : Pw w) : Calls Tryd.prog 72 #[.int .i64 (-1)] w fun e w' => e = .returned (.float .f64 4591870180066957722) ∧ ∃ q, w' = w.drewN q := by
  have c0 := h.n0
  have ct := h.t1
  have hf : ∀ W : World, (binOp .quo 22 (.float .f64 4607182418800017408) (.float .f64 4621819117588971520)).run Tryd.prog W = .ok (.float .f64 4591870180066957722) W := fun W => run_float_arith W .quo 22 .f64 _ _ _ (by kernel_rfl)
  have a1 : IntKind.i64.wrap 1 = 1 := rfl
  have a2 : IntKind.u64.wrap 1 = 1 := rfl
  have a3 : (1 : Int).tdiv 32 = 0 := rfl
  have a5 : (1 : Int).tmod 32 = 1 := rfl
  have a4 : IntKind.u64.wrap 0 = 0 := rfl
  go_enter Tryd.func72, Tryd.ntmps72
  go_wp2_with (fail)
  go_quiet (fail)
  go_wp2
  go_ret
  exact ⟨rfl, _, rfl⟩

theorem mul_2 (W : World) : (binOp .mul 22 (.float .f64 4576918229304087675) (.float .f64 4741671816366391296)).run Tryd.prog W = .ok (.float .f64 4711630319722168320) W := run_float_arith W .mul 22 .f64 _ _ _ (by kernel_rfl)
theorem int_2 (W : World) : (convert 22 2 (.float .f64 4711630319722168320)).run Tryd.prog W = .ok (.int .i64 10000000) W := run_convert_float_int W 22 2 .f64 .i64 _ _ (by kernel_rfl) Tryd.underlying2 (by kernel_rfl)

set_option maxRecDepth 100000 in
theorem pow10_2 (w : World) (h : Pw w) : Calls Tryd.prog 72 #[.int .i64 (-2)] w fun e w' => e = .returned (.float .f64 4576918229304087675) ∧ ∃ q, w' = w.drewN q := by
  have c0 := h.n0
  have ct := h.t2
  have hf : ∀ W : World, (binOp .quo 22 (.float .f64 4607182418800017408) (.float .f64 4636737291354636288)).run Tryd.prog W = .ok (.float .f64 4576918229304087675) W := fun W => run_float_arith W .quo 22 .f64 _ _ _ (by kernel_rfl)
  have a1 : IntKind.i64.wrap 2 = 2 := rfl
  have a2 : IntKind.u64.wrap 2 = 2 := rfl
  have a3 : (2 : Int).tdiv 32 = 0 := rfl
  have a5 : (2 : Int).tmod 32 = 2 := rfl
  have a4 : IntKind.u64.wrap 0 = 0 := rfl
  go_enter Tryd.func72, Tryd.ntmps72
  go_wp2_with (fail)
  go_quiet (fail)
  go_wp2
  go_ret
  exact ⟨rfl, _, rfl⟩

theorem mul_3 (W : World) : (binOp .mul 22 (.float .f64 4562254508917369340) (.float .f64 4741671816366391296)).run Tryd.prog W = .ok (.float .f64 4696837146684686336) W := run_float_arith W .mul 22 .f64 _ _ _ (by kernel_rfl)
theorem int_3 (W : World) : (convert 22 2 (.float .f64 4696837146684686336)).run Tryd.prog W = .ok (.int .i64 1000000) W := run_convert_float_int W 22 2 .f64 .i64 _ _ (by kernel_rfl) Tryd.underlying2 (by kernel_rfl)

set_option maxRecDepth 100000 in
theorem pow10_3 (w : World) (h : Pw w) : Calls Tryd.prog 72 #[.int .i64 (-3)] w fun e w' => e = .returned (.float .f64 4562254508917369340) ∧ ∃ q, w' = w.drewN q := by
  have c0 := h.n0
  have ct := h.t3
  have hf : ∀ W : World, (binOp .quo 22 (.float .f64 4607182418800017408) (.float .f64 4652007308841189376)).run Tryd.prog W = .ok (.float .f64 4562254508917369340) W := fun W => run_float_arith W .quo 22 .f64 _ _ _ (by kernel_rfl)
  have a1 : IntKind.i64.wrap 3 = 3 := rfl
  have a2 : IntKind.u64.wrap 3 = 3 := rfl
  have a3 : (3 : Int).tdiv 32 = 0 := rfl
  have a5 : (3 : Int).tmod 32 = 3 := rfl
  have a4 : IntKind.u64.wrap 0 = 0 := rfl
  go_enter Tryd.func72, Tryd.ntmps72
  go_wp2_with (fail)
  go_quiet (fail)
  go_wp2
  go_ret
  exact ⟨rfl, _, rfl⟩

theorem mul_4 (W : World) : (binOp .mul 22 (.float .f64 4547007122018943789) (.float .f64 4741671816366391296)).run Tryd.prog W = .ok (.float .f64 4681608360884174848) W := run_float_arith W .mul 22 .f64 _ _ _ (by kernel_rfl)
theorem int_4 (W : World) : (convert 22 2 (.float .f64 4681608360884174848)).run Tryd.prog W = .ok (.int .i64 100000) W := run_convert_float_int W 22 2 .f64 .i64 _ _ (by kernel_rfl) Tryd.underlying2 (by kernel_rfl)

set_option maxRecDepth 100000 in
theorem pow10_4 (w : World) (h : Pw w) : Calls Tryd.prog 72 #[.int .i64 (-4)] w fun e w' => e = .returned (.float .f64 4547007122018943789) ∧ ∃ q, w' = w.drewN q := by
  have c0 := h.n0
  have ct := h.t4
  have hf : ∀ W : World, (binOp .quo 22 (.float .f64 4607182418800017408) (.float .f64 4666723172467343360)).run Tryd.prog W = .ok (.float .f64 4547007122018943789) W := fun W => run_float_arith W .quo 22 .f64 _ _ _ (by kernel_rfl)
  have a1 : IntKind.i64.wrap 4 = 4 := rfl
  have a2 : IntKind.u64.wrap 4 = 4 := rfl
  have a3 : (4 : Int).tdiv 32 = 0 := rfl
  have a5 : (4 : Int).tmod 32 = 4 := rfl
  have a4 : IntKind.u64.wrap 0 = 0 := rfl
  go_enter Tryd.func72, Tryd.ntmps72
  go_wp2_with (fail)
  go_quiet (fail)
  go_wp2
  go_ret
  exact ⟨rfl, _, rfl⟩

theorem mul_5 (W : World) : (binOp .mul 22 (.float .f64 4532020583610935537) (.float .f64 4741671816366391296)).run Tryd.prog W = .ok (.float .f64 4666723172467343360) W := run_float_arith W .mul 22 .f64 _ _ _ (by kernel_rfl)
theorem int_5 (W : World) : (convert 22 2 (.float .f64 4666723172467343360)).run Tryd.prog W = .ok (.int .i64 10000) W := run_convert_float_int W 22 2 .f64 .i64 _ _ (by kernel_rfl) Tryd.underlying2 (by kernel_rfl)

set_option maxRecDepth 100000 in
theorem pow10_5 (w : World) (h : Pw w) : Calls Tryd.prog 72 #[.int .i64 (-5)] w fun e w' => e = .returned (.float .f64 4532020583610935537) ∧ ∃ q, w' = w.drewN q := by
  have c0 := h.n0
  have ct := h.t5
  have hf : ∀ W : World, (binOp .quo 22 (.float .f64 4607182418800017408) (.float .f64 4681608360884174848)).run Tryd.prog W = .ok (.float .f64 4532020583610935537) W := fun W => run_float_arith W .quo 22 .f64 _ _ _ (by kernel_rfl)
  have a1 : IntKind.i64.wrap 5 = 5 := rfl
  have a2 : IntKind.u64.wrap 5 = 5 := rfl
  have a3 : (5 : Int).tdiv 32 = 0 := rfl
  have a5 : (5 : Int).tmod 32 = 5 := rfl
  have a4 : IntKind.u64.wrap 0 = 0 := rfl
  go_enter Tryd.func72, Tryd.ntmps72
  go_wp2_with (fail)
  go_quiet (fail)
  go_wp2
  go_ret
  exact ⟨rfl, _, rfl⟩

theorem mul_6 (W : World) : (binOp .mul 22 (.float .f64 4517329193108106637) (.float .f64 4741671816366391296)).run Tryd.prog W = .ok (.float .f64 4652007308841189376) W := run_float_arith W .mul 22 .f64 _ _ _ (by kernel_rfl)
theorem int_6 (W : World) : (convert 22 2 (.float .f64 4652007308841189376)).run Tryd.prog W = .ok (.int .i64 1000) W := run_convert_float_int W 22 2 .f64 .i64 _ _ (by kernel_rfl) Tryd.underlying2 (by kernel_rfl)

set_option maxRecDepth 100000 in
theorem pow10_6 (w : World) (h : Pw w) : Calls Tryd.prog 72 #[.int .i64 (-6)] w fun e w' => e = .returned (.float .f64 4517329193108106637) ∧ ∃ q, w' = w.drewN q := by
  have c0 := h.n0
  have ct := h.t6
  have hf : ∀ W : World, (binOp .quo 22 (.float .f64 4607182418800017408) (.float .f64 4696837146684686336)).run Tryd.prog W = .ok (.float .f64 4517329193108106637) W := fun W => run_float_arith W .quo 22 .f64 _ _ _ (by kernel_rfl)
  have a1 : IntKind.i64.wrap 6 = 6 := rfl
  have a2 : IntKind.u64.wrap 6 = 6 := rfl
  have a3 : (6 : Int).tdiv 32 = 0 := rfl
  have a5 : (6 : Int).tmod 32 = 6 := rfl
  have a4 : IntKind.u64.wrap 0 = 0 := rfl
  go_enter Tryd.func72, Tryd.ntmps72
  go_wp2_with (fail)
  go_quiet (fail)
  go_wp2
  go_ret
  exact ⟨rfl, _, rfl⟩

theorem mul_7 (W : World) : (binOp .mul 22 (.float .f64 4502148214488346440) (.float .f64 4741671816366391296)).run Tryd.prog W = .ok (.float .f64 4636737291354636288) W := run_float_arith W .mul 22 .f64 _ _ _ (by kernel_rfl)
theorem int_7 (W : World) : (convert 22 2 (.float .f64 4636737291354636288)).run Tryd.prog W = .ok (.int .i64 100) W := run_convert_float_int W 22 2 .f64 .i64 _ _ (by kernel_rfl) Tryd.underlying2 (by kernel_rfl)

set_option maxRecDepth 100000 in
theorem pow10_7 (w : World) (h : Pw w) : Calls Tryd.prog 72 #[.int .i64 (-7)] w fun e w' => e = .returned (.float .f64 4502148214488346440) ∧ ∃ q, w' = w.drewN q := by
  have c0 := h.n0
  have ct := h.t7
  have hf : ∀ W : World, (binOp .quo 22 (.float .f64 4607182418800017408) (.float .f64 4711630319722168320)).run Tryd.prog W = .ok (.float .f64 4502148214488346440) W := fun W => run_float_arith W .quo 22 .f64 _ _ _ (by kernel_rfl)
  have a1 : IntKind.i64.wrap 7 = 7 := rfl
  have a2 : IntKind.u64.wrap 7 = 7 := rfl
  have a3 : (7 : Int).tdiv 32 = 0 := rfl
  have a5 : (7 : Int).tmod 32 = 7 := rfl
  have a4 : IntKind.u64.wrap 0 = 0 := rfl
  go_enter Tryd.func72, Tryd.ntmps72
  go_wp2_with (fail)
  go_quiet (fail)
  go_wp2
  go_ret
  exact ⟨rfl, _, rfl⟩

/-- The unit of a scale, as the package reckons it. -/
structure Pow (s : Nat) (r r2 : Nat) (u : Int) : Prop where
  call : ∀ w : World, Pw w → Calls Tryd.prog 72 #[.int .i64 (-(s : Int))] w fun e w' => e = .returned (.float .f64 r) ∧ ∃ q, w' = w.drewN q
  mul : ∀ W : World, (binOp .mul 22 (.float .f64 r) (.float .f64 4741671816366391296)).run Tryd.prog W = .ok (.float .f64 r2) W
  int : ∀ W : World, (convert 22 2 (.float .f64 r2)).run Tryd.prog W = .ok (.int .i64 u) W

theorem pow_scale (s : Nat) (hs : s ≤ 7) : ∃ r r2, Pow s r r2 ((10 ^ (9 - s) : Nat) : Int) := by
  match s, hs with
  | 0, _ => exact ⟨_, _, fun w h => pow10_0 w h, mul_0, int_0⟩
  | 1, _ => exact ⟨_, _, fun w h => pow10_1 w h, mul_1, int_1⟩
  | 2, _ => exact ⟨_, _, fun w h => pow10_2 w h, mul_2, int_2⟩
  | 3, _ => exact ⟨_, _, fun w h => pow10_3 w h, mul_3, int_3⟩
  | 4, _ => exact ⟨_, _, fun w h => pow10_4 w h, mul_4, int_4⟩
  | 5, _ => exact ⟨_, _, fun w h => pow10_5 w h, mul_5, int_5⟩
  | 6, _ => exact ⟨_, _, fun w h => pow10_6 w h, mul_6, int_6⟩
  | 7, _ => exact ⟨_, _, fun w h => pow10_7 w h, mul_7, int_7⟩
  | s + 8, h => exact absurd h (by omega)
end Go.Proofs.YtahcaoenddapoaaDoor
