/- writeLoginHeader. (Printed by gen107.py.) -/
import Derived.Test.YtahcaoenddapoaaLe
import Derived.Test.YtahcaoenddapoaaImplPk
namespace Go.Proofs.Ytahcaoenddapoaa
open Go.RowKit

theorem appendLE_at {X Y : Int} (n k : Nat) (hX : X = (n : Int)) (hY : Y = (k : Int)) (hk : k ≤ 8) (base : Nat) (v : Value) (l : List Nat) (hl : l.length ≤ 140737488350000) (w : World) (hr : Row base w v l) (hb : base ≤ w.heap.size) :
    Calls Try.prog 145 #[v, .int .u64 X, .int .i64 Y] w fun e w' => ∃ v', e = .returned v' ∧ Row base w' v' (l ++ leB n k) ∧ Kept w w' (fun j => v.ownBlock = some j) ∧ Moved w v v' := by
  subst hX
  subst hY
  exact appendLE_any n k hk base v l hl w hr hb

theorem methWrite111 (x : Value) (W : World) : (method 389 111 x "Write").run Try.prog W = .ok (78, x) W := by kernel_rfl
theorem enter78 (args : Array Value) (W : World) : (callFunc 78 args).run Try.prog W = .ok (.enter 78 args) W := run_enter Try.func78 (by kernel_rfl) (by kernel_rfl) args W

/-- The header's bytes. -/
def hdrBytes (a : Nat → Nat) : List Nat := ([] : List Nat) ++ leB (a 0) 4 ++ leB (a 1) 4 ++ leB (a 2) 4 ++ leB (a 3) 4 ++ leB (a 4) 4 ++ leB (a 5) 4 ++ leB (a 6) 1 ++ leB (a 7) 1 ++ leB (a 8) 1 ++ leB (a 9) 1 ++ leB (a 10) 4 ++ leB (a 11) 4 ++ leB (a 12) 2 ++ leB (a 13) 2 ++ leB (a 14) 2 ++ leB (a 15) 2 ++ leB (a 16) 2 ++ leB (a 17) 2 ++ leB (a 18) 2 ++ leB (a 19) 2 ++ leB (a 20) 2 ++ leB (a 21) 2 ++ leB (a 22) 2 ++ leB (a 23) 2 ++ leB (a 24) 2 ++ leB (a 25) 2 ++ leB (a 26) 2 ++ leB (a 27) 2 ++ leB (a 28) 2 ++ leB (a 29) 2 ++ [0, 0, 0, 0, 0, 0] ++ leB (a 31) 2 ++ leB (a 32) 2 ++ leB (a 33) 2 ++ leB (a 34) 2 ++ leB (a 35) 2 ++ leB (a 36) 2 ++ leB (a 37) 4

/-- The header in block hh. -/
structure Hdr (w : World) (hh : Nat) (tz : Int) (a : Nat → Nat) : Prop where
  c0 : w.cell? ⟨hh, 0, none⟩ = some (.int .u32 (a 0 : Int))
  c1 : w.cell? ⟨hh, 1, none⟩ = some (.int .u32 (a 1 : Int))
  c2 : w.cell? ⟨hh, 2, none⟩ = some (.int .u32 (a 2 : Int))
  c3 : w.cell? ⟨hh, 3, none⟩ = some (.int .u32 (a 3 : Int))
  c4 : w.cell? ⟨hh, 4, none⟩ = some (.int .u32 (a 4 : Int))
  c5 : w.cell? ⟨hh, 5, none⟩ = some (.int .u32 (a 5 : Int))
  c6 : w.cell? ⟨hh, 6, none⟩ = some (.int .u8 (a 6 : Int))
  c7 : w.cell? ⟨hh, 7, none⟩ = some (.int .u8 (a 7 : Int))
  c8 : w.cell? ⟨hh, 8, none⟩ = some (.int .u8 (a 8 : Int))
  c9 : w.cell? ⟨hh, 9, none⟩ = some (.int .u8 (a 9 : Int))
  c10 : w.cell? ⟨hh, 10, none⟩ = some (.int .i32 tz)
  c11 : w.cell? ⟨hh, 11, none⟩ = some (.int .u32 (a 11 : Int))
  c12 : w.cell? ⟨hh, 12, none⟩ = some (.int .u16 (a 12 : Int))
  c13 : w.cell? ⟨hh, 13, none⟩ = some (.int .u16 (a 13 : Int))
  c14 : w.cell? ⟨hh, 14, none⟩ = some (.int .u16 (a 14 : Int))
  c15 : w.cell? ⟨hh, 15, none⟩ = some (.int .u16 (a 15 : Int))
  c16 : w.cell? ⟨hh, 16, none⟩ = some (.int .u16 (a 16 : Int))
  c17 : w.cell? ⟨hh, 17, none⟩ = some (.int .u16 (a 17 : Int))
  c18 : w.cell? ⟨hh, 18, none⟩ = some (.int .u16 (a 18 : Int))
  c19 : w.cell? ⟨hh, 19, none⟩ = some (.int .u16 (a 19 : Int))
  c20 : w.cell? ⟨hh, 20, none⟩ = some (.int .u16 (a 20 : Int))
  c21 : w.cell? ⟨hh, 21, none⟩ = some (.int .u16 (a 21 : Int))
  c22 : w.cell? ⟨hh, 22, none⟩ = some (.int .u16 (a 22 : Int))
  c23 : w.cell? ⟨hh, 23, none⟩ = some (.int .u16 (a 23 : Int))
  c24 : w.cell? ⟨hh, 24, none⟩ = some (.int .u16 (a 24 : Int))
  c25 : w.cell? ⟨hh, 25, none⟩ = some (.int .u16 (a 25 : Int))
  c26 : w.cell? ⟨hh, 26, none⟩ = some (.int .u16 (a 26 : Int))
  c27 : w.cell? ⟨hh, 27, none⟩ = some (.int .u16 (a 27 : Int))
  c28 : w.cell? ⟨hh, 28, none⟩ = some (.int .u16 (a 28 : Int))
  c29 : w.cell? ⟨hh, 29, none⟩ = some (.int .u16 (a 29 : Int))
  d0 : w.cell? ⟨hh, 30, none⟩ = some (.int .u8 0)
  d1 : w.cell? ⟨hh, 31, none⟩ = some (.int .u8 0)
  d2 : w.cell? ⟨hh, 32, none⟩ = some (.int .u8 0)
  d3 : w.cell? ⟨hh, 33, none⟩ = some (.int .u8 0)
  d4 : w.cell? ⟨hh, 34, none⟩ = some (.int .u8 0)
  d5 : w.cell? ⟨hh, 35, none⟩ = some (.int .u8 0)
  c31 : w.cell? ⟨hh, 36, none⟩ = some (.int .u16 (a 31 : Int))
  c32 : w.cell? ⟨hh, 37, none⟩ = some (.int .u16 (a 32 : Int))
  c33 : w.cell? ⟨hh, 38, none⟩ = some (.int .u16 (a 33 : Int))
  c34 : w.cell? ⟨hh, 39, none⟩ = some (.int .u16 (a 34 : Int))
  c35 : w.cell? ⟨hh, 40, none⟩ = some (.int .u16 (a 35 : Int))
  c36 : w.cell? ⟨hh, 41, none⟩ = some (.int .u16 (a 36 : Int))
  c37 : w.cell? ⟨hh, 42, none⟩ = some (.int .u32 (a 37 : Int))

theorem Hdr.fresh {w w' : World} {hh : Nat} {tz : Int} {a : Nat → Nat} (h : Hdr w hh tz a) (hk : Fresh w w') : Hdr w' hh tz a :=
  have c := fun (j : Nat) {u : Value} (hc : w.cell? ⟨hh, j, none⟩ = some u) => hk.held (p := ⟨hh, j, none⟩) hc (fun h => h)
  ⟨c 0 h.c0, c 1 h.c1, c 2 h.c2, c 3 h.c3, c 4 h.c4, c 5 h.c5, c 6 h.c6, c 7 h.c7, c 8 h.c8, c 9 h.c9, c 10 h.c10, c 11 h.c11, c 12 h.c12, c 13 h.c13, c 14 h.c14, c 15 h.c15, c 16 h.c16, c 17 h.c17, c 18 h.c18, c 19 h.c19, c 20 h.c20, c 21 h.c21, c 22 h.c22, c 23 h.c23, c 24 h.c24, c 25 h.c25, c 26 h.c26, c 27 h.c27, c 28 h.c28, c 29 h.c29, c 30 h.d0, c 31 h.d1, c 32 h.d2, c 33 h.d3, c 34 h.d4, c 35 h.d5, c 36 h.c31, c 37 h.c32, c 38 h.c33, c 39 h.c34, c 40 h.c35, c 41 h.c36, c 42 h.c37⟩

theorem Row.in {a w w' : World} {v v' : Value} (h : Fresh a w) (hv : ∀ k, v.ownBlock = some k → a.heap.size ≤ k) (hk : Kept w w' (fun j => v.ownBlock = some j)) (hm : Moved w v v') : Fresh a w' ∧ ∀ k, v'.ownBlock = some k → a.heap.size ≤ k :=
  ⟨h.trans hk (fun k hlt e => by have := hv k e; omega), fun k e => (hm k e).elim (hv k) (fun h' => Nat.le_trans h.size h')⟩

set_option maxRecDepth 100000 in
set_option maxHeartbeats 4000000 in
theorem header_any (base g hb bb ps N C typ k : Nat) (v : Value) (T : List Nat) (hh : Nat) (tz : Int) (a : Nat → Nat) (w : World) (hO : Out w base g hb bb ps N C typ k v T) (hl : Less (ps - 8) k T) (hH : Hdr w hh tz a) (ha : ∀ i, a i < 4294967296) (htz : IntKind.u32.wrap tz = (a 10 : Int))
    (h9 : 9 ≤ ps) (hpN : ps ≤ N) (hNC : N < C) (hN : N ≤ 32768) (hC : C ≤ 70000) (hbase : base ≤ w.heap.size) (hT : T.length ≤ 100000) :
    Calls Try.prog 107 #[.iface 111 (.pointer (some ⟨g, 0, none⟩)), .pointer (some ⟨hh, 0, none⟩)] w fun e w' => e = .returned .nilIface ∧ ∃ k' v', Out w' base g hb bb ps N C typ k' v' (T ++ hdrBytes a) ∧ Less (ps - 8) k' (T ++ hdrBytes a) ∧ Kept w w' (RawS g hb bb v) ∧ Moved w v v' := by
  obtain ⟨i0, hi, hz0, hz1, hz2⟩ := info_parts info5
  have HA := Go.Lib.hid ha
  have HTZ := Go.Lib.hid htz
  clear ha htz
  go_enter Try.func107, Try.ntmps107
  go_wp2_with (at_make; refine wpList_make_own _ rfl _ _ 24 rfl w.heap.size 5 i0 (.int .u8 0) 1 Try.underlying24 hi hz0 hz1 .i64 .i64 _ 94 rfl rfl rfl (by rw [hz2]; decide) (by decide) (Nat.le_refl _) ?_; intro w0 hown hgr; have hF0 : Fresh w w0 := (Kept.of_grown hgr).mono (fun _ _ h => by cases h); have q0 := (hH.fresh hF0).c0)
  have hr0 : Row w.heap.size w0 (.slice (some ⟨w.heap.size, 0, none⟩) 0 94) [] := hown
  have hv0 : ∀ k, (Value.slice (some ⟨w.heap.size, 0, none⟩) 0 94).ownBlock = some k → w.heap.size ≤ k := fun k e => (hr0.block k e).1
  obtain ⟨l0, hq0⟩ : ∃ l : List Nat, l = [] := ⟨_, rfl⟩
  rw [← hq0] at hr0
  have hn0 : l0.length ≤ 0 := by rw [hq0]; exact Nat.le_refl _
  have HQ0 := Go.Lib.hid hq0
  clear hq0
  have HR0 := Go.Lib.hid hr0
  have HV0 := Go.Lib.hid hv0
  clear hown hgr hr0 hv0
  refine (appendLE_at (a 0) 4 (by first | rfl | (rw [IntKind.wrap_u64]; have := HA.out 0; omega)) rfl (by decide) w.heap.size _ _ (by omega) _ HR0.out hF0.size).mono ?_
  rintro e w1 ⟨v1, rfl, hr1, hK1, hM1⟩
  obtain ⟨hF1, hv1⟩ := Row.in hF0 HV0.out hK1 hM1
  obtain ⟨l1, hq1⟩ : ∃ l : List Nat, l = l0 ++ leB (a 0) 4 := ⟨_, rfl⟩
  rw [← hq1] at hr1
  have hn1 : l1.length ≤ 4 := by rw [hq1, List.length_append, leB_length]; omega
  have HQ1 := Go.Lib.hid hq1
  have HR1 := Go.Lib.hid hr1
  clear hq1 hr1
  have HV1 := Go.Lib.hid hv1
  clear hv1 hK1 hM1 q0 HR0 HV0 hn0
  have q1 := (hH.fresh hF1).c1
  go_wp2_with (fail)
  refine (appendLE_at (a 1) 4 (by first | rfl | (rw [IntKind.wrap_u64]; have := HA.out 1; omega)) rfl (by decide) w.heap.size _ _ (by omega) _ HR1.out hF1.size).mono ?_
  rintro e w2 ⟨v2, rfl, hr2, hK2, hM2⟩
  obtain ⟨hF2, hv2⟩ := Row.in hF1 HV1.out hK2 hM2
  obtain ⟨l2, hq2⟩ : ∃ l : List Nat, l = l1 ++ leB (a 1) 4 := ⟨_, rfl⟩
  rw [← hq2] at hr2
  have hn2 : l2.length ≤ 8 := by rw [hq2, List.length_append, leB_length]; omega
  have HQ2 := Go.Lib.hid hq2
  have HR2 := Go.Lib.hid hr2
  clear hq2 hr2
  have HV2 := Go.Lib.hid hv2
  clear hv2 hK2 hM2 q1 HR1 HV1 hn1
  have q2 := (hH.fresh hF2).c2
  go_wp2_with (fail)
  refine (appendLE_at (a 2) 4 (by first | rfl | (rw [IntKind.wrap_u64]; have := HA.out 2; omega)) rfl (by decide) w.heap.size _ _ (by omega) _ HR2.out hF2.size).mono ?_
  rintro e w3 ⟨v3, rfl, hr3, hK3, hM3⟩
  obtain ⟨hF3, hv3⟩ := Row.in hF2 HV2.out hK3 hM3
  obtain ⟨l3, hq3⟩ : ∃ l : List Nat, l = l2 ++ leB (a 2) 4 := ⟨_, rfl⟩
  rw [← hq3] at hr3
  have hn3 : l3.length ≤ 12 := by rw [hq3, List.length_append, leB_length]; omega
  have HQ3 := Go.Lib.hid hq3
  have HR3 := Go.Lib.hid hr3
  clear hq3 hr3
  have HV3 := Go.Lib.hid hv3
  clear hv3 hK3 hM3 q2 HR2 HV2 hn2
  have q3 := (hH.fresh hF3).c3
  go_wp2_with (fail)
  refine (appendLE_at (a 3) 4 (by first | rfl | (rw [IntKind.wrap_u64]; have := HA.out 3; omega)) rfl (by decide) w.heap.size _ _ (by omega) _ HR3.out hF3.size).mono ?_
  rintro e w4 ⟨v4, rfl, hr4, hK4, hM4⟩
  obtain ⟨hF4, hv4⟩ := Row.in hF3 HV3.out hK4 hM4
  obtain ⟨l4, hq4⟩ : ∃ l : List Nat, l = l3 ++ leB (a 3) 4 := ⟨_, rfl⟩
  rw [← hq4] at hr4
  have hn4 : l4.length ≤ 16 := by rw [hq4, List.length_append, leB_length]; omega
  have HQ4 := Go.Lib.hid hq4
  have HR4 := Go.Lib.hid hr4
  clear hq4 hr4
  have HV4 := Go.Lib.hid hv4
  clear hv4 hK4 hM4 q3 HR3 HV3 hn3
  have q4 := (hH.fresh hF4).c4
  go_wp2_with (fail)
  refine (appendLE_at (a 4) 4 (by first | rfl | (rw [IntKind.wrap_u64]; have := HA.out 4; omega)) rfl (by decide) w.heap.size _ _ (by omega) _ HR4.out hF4.size).mono ?_
  rintro e w5 ⟨v5, rfl, hr5, hK5, hM5⟩
  obtain ⟨hF5, hv5⟩ := Row.in hF4 HV4.out hK5 hM5
  obtain ⟨l5, hq5⟩ : ∃ l : List Nat, l = l4 ++ leB (a 4) 4 := ⟨_, rfl⟩
  rw [← hq5] at hr5
  have hn5 : l5.length ≤ 20 := by rw [hq5, List.length_append, leB_length]; omega
  have HQ5 := Go.Lib.hid hq5
  have HR5 := Go.Lib.hid hr5
  clear hq5 hr5
  have HV5 := Go.Lib.hid hv5
  clear hv5 hK5 hM5 q4 HR4 HV4 hn4
  have q5 := (hH.fresh hF5).c5
  go_wp2_with (fail)
  refine (appendLE_at (a 5) 4 (by first | rfl | (rw [IntKind.wrap_u64]; have := HA.out 5; omega)) rfl (by decide) w.heap.size _ _ (by omega) _ HR5.out hF5.size).mono ?_
  rintro e w6 ⟨v6, rfl, hr6, hK6, hM6⟩
  obtain ⟨hF6, hv6⟩ := Row.in hF5 HV5.out hK6 hM6
  obtain ⟨l6, hq6⟩ : ∃ l : List Nat, l = l5 ++ leB (a 5) 4 := ⟨_, rfl⟩
  rw [← hq6] at hr6
  have hn6 : l6.length ≤ 24 := by rw [hq6, List.length_append, leB_length]; omega
  have HQ6 := Go.Lib.hid hq6
  have HR6 := Go.Lib.hid hr6
  clear hq6 hr6
  have HV6 := Go.Lib.hid hv6
  clear hv6 hK6 hM6 q5 HR5 HV5 hn5
  have q6 := (hH.fresh hF6).c6
  go_wp2_with (fail)
  refine (appendLE_at (a 6) 1 (by first | rfl | (rw [IntKind.wrap_u64]; have := HA.out 6; omega)) rfl (by decide) w.heap.size _ _ (by omega) _ HR6.out hF6.size).mono ?_
  rintro e w7 ⟨v7, rfl, hr7, hK7, hM7⟩
  obtain ⟨hF7, hv7⟩ := Row.in hF6 HV6.out hK7 hM7
  obtain ⟨l7, hq7⟩ : ∃ l : List Nat, l = l6 ++ leB (a 6) 1 := ⟨_, rfl⟩
  rw [← hq7] at hr7
  have hn7 : l7.length ≤ 25 := by rw [hq7, List.length_append, leB_length]; omega
  have HQ7 := Go.Lib.hid hq7
  have HR7 := Go.Lib.hid hr7
  clear hq7 hr7
  have HV7 := Go.Lib.hid hv7
  clear hv7 hK7 hM7 q6 HR6 HV6 hn6
  have q7 := (hH.fresh hF7).c7
  go_wp2_with (fail)
  refine (appendLE_at (a 7) 1 (by first | rfl | (rw [IntKind.wrap_u64]; have := HA.out 7; omega)) rfl (by decide) w.heap.size _ _ (by omega) _ HR7.out hF7.size).mono ?_
  rintro e w8 ⟨v8, rfl, hr8, hK8, hM8⟩
  obtain ⟨hF8, hv8⟩ := Row.in hF7 HV7.out hK8 hM8
  obtain ⟨l8, hq8⟩ : ∃ l : List Nat, l = l7 ++ leB (a 7) 1 := ⟨_, rfl⟩
  rw [← hq8] at hr8
  have hn8 : l8.length ≤ 26 := by rw [hq8, List.length_append, leB_length]; omega
  have HQ8 := Go.Lib.hid hq8
  have HR8 := Go.Lib.hid hr8
  clear hq8 hr8
  have HV8 := Go.Lib.hid hv8
  clear hv8 hK8 hM8 q7 HR7 HV7 hn7
  have q8 := (hH.fresh hF8).c8
  go_wp2_with (fail)
  refine (appendLE_at (a 8) 1 (by first | rfl | (rw [IntKind.wrap_u64]; have := HA.out 8; omega)) rfl (by decide) w.heap.size _ _ (by omega) _ HR8.out hF8.size).mono ?_
  rintro e w9 ⟨v9, rfl, hr9, hK9, hM9⟩
  obtain ⟨hF9, hv9⟩ := Row.in hF8 HV8.out hK9 hM9
  obtain ⟨l9, hq9⟩ : ∃ l : List Nat, l = l8 ++ leB (a 8) 1 := ⟨_, rfl⟩
  rw [← hq9] at hr9
  have hn9 : l9.length ≤ 27 := by rw [hq9, List.length_append, leB_length]; omega
  have HQ9 := Go.Lib.hid hq9
  have HR9 := Go.Lib.hid hr9
  clear hq9 hr9
  have HV9 := Go.Lib.hid hv9
  clear hv9 hK9 hM9 q8 HR8 HV8 hn8
  have q9 := (hH.fresh hF9).c9
  go_wp2_with (fail)
  refine (appendLE_at (a 9) 1 (by first | rfl | (rw [IntKind.wrap_u64]; have := HA.out 9; omega)) rfl (by decide) w.heap.size _ _ (by omega) _ HR9.out hF9.size).mono ?_
  rintro e w10 ⟨v10, rfl, hr10, hK10, hM10⟩
  obtain ⟨hF10, hv10⟩ := Row.in hF9 HV9.out hK10 hM10
  obtain ⟨l10, hq10⟩ : ∃ l : List Nat, l = l9 ++ leB (a 9) 1 := ⟨_, rfl⟩
  rw [← hq10] at hr10
  have hn10 : l10.length ≤ 28 := by rw [hq10, List.length_append, leB_length]; omega
  have HQ10 := Go.Lib.hid hq10
  have HR10 := Go.Lib.hid hr10
  clear hq10 hr10
  have HV10 := Go.Lib.hid hv10
  clear hv10 hK10 hM10 q9 HR9 HV9 hn9
  have q10 := (hH.fresh hF10).c10
  go_wp2_with (fail)
  refine (appendLE_at (a 10) 4 (by have h1 := HTZ.out; rw [IntKind.wrap_u32] at h1; first | exact h1 | (rw [IntKind.wrap_u64]; omega)) rfl (by decide) w.heap.size _ _ (by omega) _ HR10.out hF10.size).mono ?_
  rintro e w11 ⟨v11, rfl, hr11, hK11, hM11⟩
  obtain ⟨hF11, hv11⟩ := Row.in hF10 HV10.out hK11 hM11
  obtain ⟨l11, hq11⟩ : ∃ l : List Nat, l = l10 ++ leB (a 10) 4 := ⟨_, rfl⟩
  rw [← hq11] at hr11
  have hn11 : l11.length ≤ 32 := by rw [hq11, List.length_append, leB_length]; omega
  have HQ11 := Go.Lib.hid hq11
  have HR11 := Go.Lib.hid hr11
  clear hq11 hr11
  have HV11 := Go.Lib.hid hv11
  clear hv11 hK11 hM11 q10 HR10 HV10 hn10
  have q11 := (hH.fresh hF11).c11
  go_wp2_with (fail)
  refine (appendLE_at (a 11) 4 (by first | rfl | (rw [IntKind.wrap_u64]; have := HA.out 11; omega)) rfl (by decide) w.heap.size _ _ (by omega) _ HR11.out hF11.size).mono ?_
  rintro e w12 ⟨v12, rfl, hr12, hK12, hM12⟩
  obtain ⟨hF12, hv12⟩ := Row.in hF11 HV11.out hK12 hM12
  obtain ⟨l12, hq12⟩ : ∃ l : List Nat, l = l11 ++ leB (a 11) 4 := ⟨_, rfl⟩
  rw [← hq12] at hr12
  have hn12 : l12.length ≤ 36 := by rw [hq12, List.length_append, leB_length]; omega
  have HQ12 := Go.Lib.hid hq12
  have HR12 := Go.Lib.hid hr12
  clear hq12 hr12
  have HV12 := Go.Lib.hid hv12
  clear hv12 hK12 hM12 q11 HR11 HV11 hn11
  have q12 := (hH.fresh hF12).c12
  go_wp2_with (fail)
  refine (appendLE_at (a 12) 2 (by first | rfl | (rw [IntKind.wrap_u64]; have := HA.out 12; omega)) rfl (by decide) w.heap.size _ _ (by omega) _ HR12.out hF12.size).mono ?_
  rintro e w13 ⟨v13, rfl, hr13, hK13, hM13⟩
  obtain ⟨hF13, hv13⟩ := Row.in hF12 HV12.out hK13 hM13
  obtain ⟨l13, hq13⟩ : ∃ l : List Nat, l = l12 ++ leB (a 12) 2 := ⟨_, rfl⟩
  rw [← hq13] at hr13
  have hn13 : l13.length ≤ 38 := by rw [hq13, List.length_append, leB_length]; omega
  have HQ13 := Go.Lib.hid hq13
  have HR13 := Go.Lib.hid hr13
  clear hq13 hr13
  have HV13 := Go.Lib.hid hv13
  clear hv13 hK13 hM13 q12 HR12 HV12 hn12
  have q13 := (hH.fresh hF13).c13
  go_wp2_with (fail)
  refine (appendLE_at (a 13) 2 (by first | rfl | (rw [IntKind.wrap_u64]; have := HA.out 13; omega)) rfl (by decide) w.heap.size _ _ (by omega) _ HR13.out hF13.size).mono ?_
  rintro e w14 ⟨v14, rfl, hr14, hK14, hM14⟩
  obtain ⟨hF14, hv14⟩ := Row.in hF13 HV13.out hK14 hM14
  obtain ⟨l14, hq14⟩ : ∃ l : List Nat, l = l13 ++ leB (a 13) 2 := ⟨_, rfl⟩
  rw [← hq14] at hr14
  have hn14 : l14.length ≤ 40 := by rw [hq14, List.length_append, leB_length]; omega
  have HQ14 := Go.Lib.hid hq14
  have HR14 := Go.Lib.hid hr14
  clear hq14 hr14
  have HV14 := Go.Lib.hid hv14
  clear hv14 hK14 hM14 q13 HR13 HV13 hn13
  have q14 := (hH.fresh hF14).c14
  go_wp2_with (fail)
  refine (appendLE_at (a 14) 2 (by first | rfl | (rw [IntKind.wrap_u64]; have := HA.out 14; omega)) rfl (by decide) w.heap.size _ _ (by omega) _ HR14.out hF14.size).mono ?_
  rintro e w15 ⟨v15, rfl, hr15, hK15, hM15⟩
  obtain ⟨hF15, hv15⟩ := Row.in hF14 HV14.out hK15 hM15
  obtain ⟨l15, hq15⟩ : ∃ l : List Nat, l = l14 ++ leB (a 14) 2 := ⟨_, rfl⟩
  rw [← hq15] at hr15
  have hn15 : l15.length ≤ 42 := by rw [hq15, List.length_append, leB_length]; omega
  have HQ15 := Go.Lib.hid hq15
  have HR15 := Go.Lib.hid hr15
  clear hq15 hr15
  have HV15 := Go.Lib.hid hv15
  clear hv15 hK15 hM15 q14 HR14 HV14 hn14
  have q15 := (hH.fresh hF15).c15
  go_wp2_with (fail)
  refine (appendLE_at (a 15) 2 (by first | rfl | (rw [IntKind.wrap_u64]; have := HA.out 15; omega)) rfl (by decide) w.heap.size _ _ (by omega) _ HR15.out hF15.size).mono ?_
  rintro e w16 ⟨v16, rfl, hr16, hK16, hM16⟩
  obtain ⟨hF16, hv16⟩ := Row.in hF15 HV15.out hK16 hM16
  obtain ⟨l16, hq16⟩ : ∃ l : List Nat, l = l15 ++ leB (a 15) 2 := ⟨_, rfl⟩
  rw [← hq16] at hr16
  have hn16 : l16.length ≤ 44 := by rw [hq16, List.length_append, leB_length]; omega
  have HQ16 := Go.Lib.hid hq16
  have HR16 := Go.Lib.hid hr16
  clear hq16 hr16
  have HV16 := Go.Lib.hid hv16
  clear hv16 hK16 hM16 q15 HR15 HV15 hn15
  have q16 := (hH.fresh hF16).c16
  go_wp2_with (fail)
  refine (appendLE_at (a 16) 2 (by first | rfl | (rw [IntKind.wrap_u64]; have := HA.out 16; omega)) rfl (by decide) w.heap.size _ _ (by omega) _ HR16.out hF16.size).mono ?_
  rintro e w17 ⟨v17, rfl, hr17, hK17, hM17⟩
  obtain ⟨hF17, hv17⟩ := Row.in hF16 HV16.out hK17 hM17
  obtain ⟨l17, hq17⟩ : ∃ l : List Nat, l = l16 ++ leB (a 16) 2 := ⟨_, rfl⟩
  rw [← hq17] at hr17
  have hn17 : l17.length ≤ 46 := by rw [hq17, List.length_append, leB_length]; omega
  have HQ17 := Go.Lib.hid hq17
  have HR17 := Go.Lib.hid hr17
  clear hq17 hr17
  have HV17 := Go.Lib.hid hv17
  clear hv17 hK17 hM17 q16 HR16 HV16 hn16
  have q17 := (hH.fresh hF17).c17
  go_wp2_with (fail)
  refine (appendLE_at (a 17) 2 (by first | rfl | (rw [IntKind.wrap_u64]; have := HA.out 17; omega)) rfl (by decide) w.heap.size _ _ (by omega) _ HR17.out hF17.size).mono ?_
  rintro e w18 ⟨v18, rfl, hr18, hK18, hM18⟩
  obtain ⟨hF18, hv18⟩ := Row.in hF17 HV17.out hK18 hM18
  obtain ⟨l18, hq18⟩ : ∃ l : List Nat, l = l17 ++ leB (a 17) 2 := ⟨_, rfl⟩
  rw [← hq18] at hr18
  have hn18 : l18.length ≤ 48 := by rw [hq18, List.length_append, leB_length]; omega
  have HQ18 := Go.Lib.hid hq18
  have HR18 := Go.Lib.hid hr18
  clear hq18 hr18
  have HV18 := Go.Lib.hid hv18
  clear hv18 hK18 hM18 q17 HR17 HV17 hn17
  have q18 := (hH.fresh hF18).c18
  go_wp2_with (fail)
  refine (appendLE_at (a 18) 2 (by first | rfl | (rw [IntKind.wrap_u64]; have := HA.out 18; omega)) rfl (by decide) w.heap.size _ _ (by omega) _ HR18.out hF18.size).mono ?_
  rintro e w19 ⟨v19, rfl, hr19, hK19, hM19⟩
  obtain ⟨hF19, hv19⟩ := Row.in hF18 HV18.out hK19 hM19
  obtain ⟨l19, hq19⟩ : ∃ l : List Nat, l = l18 ++ leB (a 18) 2 := ⟨_, rfl⟩
  rw [← hq19] at hr19
  have hn19 : l19.length ≤ 50 := by rw [hq19, List.length_append, leB_length]; omega
  have HQ19 := Go.Lib.hid hq19
  have HR19 := Go.Lib.hid hr19
  clear hq19 hr19
  have HV19 := Go.Lib.hid hv19
  clear hv19 hK19 hM19 q18 HR18 HV18 hn18
  have q19 := (hH.fresh hF19).c19
  go_wp2_with (fail)
  refine (appendLE_at (a 19) 2 (by first | rfl | (rw [IntKind.wrap_u64]; have := HA.out 19; omega)) rfl (by decide) w.heap.size _ _ (by omega) _ HR19.out hF19.size).mono ?_
  rintro e w20 ⟨v20, rfl, hr20, hK20, hM20⟩
  obtain ⟨hF20, hv20⟩ := Row.in hF19 HV19.out hK20 hM20
  obtain ⟨l20, hq20⟩ : ∃ l : List Nat, l = l19 ++ leB (a 19) 2 := ⟨_, rfl⟩
  rw [← hq20] at hr20
  have hn20 : l20.length ≤ 52 := by rw [hq20, List.length_append, leB_length]; omega
  have HQ20 := Go.Lib.hid hq20
  have HR20 := Go.Lib.hid hr20
  clear hq20 hr20
  have HV20 := Go.Lib.hid hv20
  clear hv20 hK20 hM20 q19 HR19 HV19 hn19
  have q20 := (hH.fresh hF20).c20
  go_wp2_with (fail)
  refine (appendLE_at (a 20) 2 (by first | rfl | (rw [IntKind.wrap_u64]; have := HA.out 20; omega)) rfl (by decide) w.heap.size _ _ (by omega) _ HR20.out hF20.size).mono ?_
  rintro e w21 ⟨v21, rfl, hr21, hK21, hM21⟩
  obtain ⟨hF21, hv21⟩ := Row.in hF20 HV20.out hK21 hM21
  obtain ⟨l21, hq21⟩ : ∃ l : List Nat, l = l20 ++ leB (a 20) 2 := ⟨_, rfl⟩
  rw [← hq21] at hr21
  have hn21 : l21.length ≤ 54 := by rw [hq21, List.length_append, leB_length]; omega
  have HQ21 := Go.Lib.hid hq21
  have HR21 := Go.Lib.hid hr21
  clear hq21 hr21
  have HV21 := Go.Lib.hid hv21
  clear hv21 hK21 hM21 q20 HR20 HV20 hn20
  have q21 := (hH.fresh hF21).c21
  go_wp2_with (fail)
  refine (appendLE_at (a 21) 2 (by first | rfl | (rw [IntKind.wrap_u64]; have := HA.out 21; omega)) rfl (by decide) w.heap.size _ _ (by omega) _ HR21.out hF21.size).mono ?_
  rintro e w22 ⟨v22, rfl, hr22, hK22, hM22⟩
  obtain ⟨hF22, hv22⟩ := Row.in hF21 HV21.out hK22 hM22
  obtain ⟨l22, hq22⟩ : ∃ l : List Nat, l = l21 ++ leB (a 21) 2 := ⟨_, rfl⟩
  rw [← hq22] at hr22
  have hn22 : l22.length ≤ 56 := by rw [hq22, List.length_append, leB_length]; omega
  have HQ22 := Go.Lib.hid hq22
  have HR22 := Go.Lib.hid hr22
  clear hq22 hr22
  have HV22 := Go.Lib.hid hv22
  clear hv22 hK22 hM22 q21 HR21 HV21 hn21
  have q22 := (hH.fresh hF22).c22
  go_wp2_with (fail)
  refine (appendLE_at (a 22) 2 (by first | rfl | (rw [IntKind.wrap_u64]; have := HA.out 22; omega)) rfl (by decide) w.heap.size _ _ (by omega) _ HR22.out hF22.size).mono ?_
  rintro e w23 ⟨v23, rfl, hr23, hK23, hM23⟩
  obtain ⟨hF23, hv23⟩ := Row.in hF22 HV22.out hK23 hM23
  obtain ⟨l23, hq23⟩ : ∃ l : List Nat, l = l22 ++ leB (a 22) 2 := ⟨_, rfl⟩
  rw [← hq23] at hr23
  have hn23 : l23.length ≤ 58 := by rw [hq23, List.length_append, leB_length]; omega
  have HQ23 := Go.Lib.hid hq23
  have HR23 := Go.Lib.hid hr23
  clear hq23 hr23
  have HV23 := Go.Lib.hid hv23
  clear hv23 hK23 hM23 q22 HR22 HV22 hn22
  have q23 := (hH.fresh hF23).c23
  go_wp2_with (fail)
  refine (appendLE_at (a 23) 2 (by first | rfl | (rw [IntKind.wrap_u64]; have := HA.out 23; omega)) rfl (by decide) w.heap.size _ _ (by omega) _ HR23.out hF23.size).mono ?_
  rintro e w24 ⟨v24, rfl, hr24, hK24, hM24⟩
  obtain ⟨hF24, hv24⟩ := Row.in hF23 HV23.out hK24 hM24
  obtain ⟨l24, hq24⟩ : ∃ l : List Nat, l = l23 ++ leB (a 23) 2 := ⟨_, rfl⟩
  rw [← hq24] at hr24
  have hn24 : l24.length ≤ 60 := by rw [hq24, List.length_append, leB_length]; omega
  have HQ24 := Go.Lib.hid hq24
  have HR24 := Go.Lib.hid hr24
  clear hq24 hr24
  have HV24 := Go.Lib.hid hv24
  clear hv24 hK24 hM24 q23 HR23 HV23 hn23
  have q24 := (hH.fresh hF24).c24
  go_wp2_with (fail)
  refine (appendLE_at (a 24) 2 (by first | rfl | (rw [IntKind.wrap_u64]; have := HA.out 24; omega)) rfl (by decide) w.heap.size _ _ (by omega) _ HR24.out hF24.size).mono ?_
  rintro e w25 ⟨v25, rfl, hr25, hK25, hM25⟩
  obtain ⟨hF25, hv25⟩ := Row.in hF24 HV24.out hK25 hM25
  obtain ⟨l25, hq25⟩ : ∃ l : List Nat, l = l24 ++ leB (a 24) 2 := ⟨_, rfl⟩
  rw [← hq25] at hr25
  have hn25 : l25.length ≤ 62 := by rw [hq25, List.length_append, leB_length]; omega
  have HQ25 := Go.Lib.hid hq25
  have HR25 := Go.Lib.hid hr25
  clear hq25 hr25
  have HV25 := Go.Lib.hid hv25
  clear hv25 hK25 hM25 q24 HR24 HV24 hn24
  have q25 := (hH.fresh hF25).c25
  go_wp2_with (fail)
  refine (appendLE_at (a 25) 2 (by first | rfl | (rw [IntKind.wrap_u64]; have := HA.out 25; omega)) rfl (by decide) w.heap.size _ _ (by omega) _ HR25.out hF25.size).mono ?_
  rintro e w26 ⟨v26, rfl, hr26, hK26, hM26⟩
  obtain ⟨hF26, hv26⟩ := Row.in hF25 HV25.out hK26 hM26
  obtain ⟨l26, hq26⟩ : ∃ l : List Nat, l = l25 ++ leB (a 25) 2 := ⟨_, rfl⟩
  rw [← hq26] at hr26
  have hn26 : l26.length ≤ 64 := by rw [hq26, List.length_append, leB_length]; omega
  have HQ26 := Go.Lib.hid hq26
  have HR26 := Go.Lib.hid hr26
  clear hq26 hr26
  have HV26 := Go.Lib.hid hv26
  clear hv26 hK26 hM26 q25 HR25 HV25 hn25
  have q26 := (hH.fresh hF26).c26
  go_wp2_with (fail)
  refine (appendLE_at (a 26) 2 (by first | rfl | (rw [IntKind.wrap_u64]; have := HA.out 26; omega)) rfl (by decide) w.heap.size _ _ (by omega) _ HR26.out hF26.size).mono ?_
  rintro e w27 ⟨v27, rfl, hr27, hK27, hM27⟩
  obtain ⟨hF27, hv27⟩ := Row.in hF26 HV26.out hK27 hM27
  obtain ⟨l27, hq27⟩ : ∃ l : List Nat, l = l26 ++ leB (a 26) 2 := ⟨_, rfl⟩
  rw [← hq27] at hr27
  have hn27 : l27.length ≤ 66 := by rw [hq27, List.length_append, leB_length]; omega
  have HQ27 := Go.Lib.hid hq27
  have HR27 := Go.Lib.hid hr27
  clear hq27 hr27
  have HV27 := Go.Lib.hid hv27
  clear hv27 hK27 hM27 q26 HR26 HV26 hn26
  have q27 := (hH.fresh hF27).c27
  go_wp2_with (fail)
  refine (appendLE_at (a 27) 2 (by first | rfl | (rw [IntKind.wrap_u64]; have := HA.out 27; omega)) rfl (by decide) w.heap.size _ _ (by omega) _ HR27.out hF27.size).mono ?_
  rintro e w28 ⟨v28, rfl, hr28, hK28, hM28⟩
  obtain ⟨hF28, hv28⟩ := Row.in hF27 HV27.out hK28 hM28
  obtain ⟨l28, hq28⟩ : ∃ l : List Nat, l = l27 ++ leB (a 27) 2 := ⟨_, rfl⟩
  rw [← hq28] at hr28
  have hn28 : l28.length ≤ 68 := by rw [hq28, List.length_append, leB_length]; omega
  have HQ28 := Go.Lib.hid hq28
  have HR28 := Go.Lib.hid hr28
  clear hq28 hr28
  have HV28 := Go.Lib.hid hv28
  clear hv28 hK28 hM28 q27 HR27 HV27 hn27
  have q28 := (hH.fresh hF28).c28
  go_wp2_with (fail)
  refine (appendLE_at (a 28) 2 (by first | rfl | (rw [IntKind.wrap_u64]; have := HA.out 28; omega)) rfl (by decide) w.heap.size _ _ (by omega) _ HR28.out hF28.size).mono ?_
  rintro e w29 ⟨v29, rfl, hr29, hK29, hM29⟩
  obtain ⟨hF29, hv29⟩ := Row.in hF28 HV28.out hK29 hM29
  obtain ⟨l29, hq29⟩ : ∃ l : List Nat, l = l28 ++ leB (a 28) 2 := ⟨_, rfl⟩
  rw [← hq29] at hr29
  have hn29 : l29.length ≤ 70 := by rw [hq29, List.length_append, leB_length]; omega
  have HQ29 := Go.Lib.hid hq29
  have HR29 := Go.Lib.hid hr29
  clear hq29 hr29
  have HV29 := Go.Lib.hid hv29
  clear hv29 hK29 hM29 q28 HR28 HV28 hn28
  have q29 := (hH.fresh hF29).c29
  go_wp2_with (fail)
  refine (appendLE_at (a 29) 2 (by first | rfl | (rw [IntKind.wrap_u64]; have := HA.out 29; omega)) rfl (by decide) w.heap.size _ _ (by omega) _ HR29.out hF29.size).mono ?_
  rintro e w30 ⟨v30, rfl, hr30, hK30, hM30⟩
  obtain ⟨hF30, hv30⟩ := Row.in hF29 HV29.out hK30 hM30
  obtain ⟨l30, hq30⟩ : ∃ l : List Nat, l = l29 ++ leB (a 29) 2 := ⟨_, rfl⟩
  rw [← hq30] at hr30
  have hn30 : l30.length ≤ 72 := by rw [hq30, List.length_append, leB_length]; omega
  have HQ30 := Go.Lib.hid hq30
  have HR30 := Go.Lib.hid hr30
  clear hq30 hr30
  have HV30 := Go.Lib.hid hv30
  clear hv30 hK30 hM30 q29 HR29 HV29 hn29
  have hE30 := hH.fresh hF30
  have hids : Bts w30 (.slice (some ⟨hh, 30, none⟩) 6 6) [0, 0, 0, 0, 0, 0] := by
    refine ⟨_, 6, rfl, Nat.le_refl _, by decide, fun h => (by cases h), fun ad hA => ?_⟩
    cases hA
    refine ⟨hh, 30, rfl, World.block_lt_of_cell? w30 ⟨hh, 30, none⟩ hE30.d0, fun j hj => ?_⟩
    match j, hj with
    | 0, _ => exact hE30.d0
    | 1, _ => exact hE30.d1
    | 2, _ => exact hE30.d2
    | 3, _ => exact hE30.d3
    | 4, _ => exact hE30.d4
    | 5, _ => exact hE30.d5
    | j + 6, hj => simp at hj; omega
  have hlid : l30.length + ([0, 0, 0, 0, 0, 0] : List Nat).length ≤ 140737488355328 := by simp only [List.length_cons, List.length_nil]; omega
  go_wp2_with (at_builtin; refine wpList_append_bts _ rfl (.tmp 220) (.tmp 224) 24 24 rfl w.heap.size i0 Try.underlying24 Try.underlying24 hi hz0 hz1 hz2 v30 (.slice (some ⟨hh, 30, none⟩) 6 6) rfl rfl _ [0, 0, 0, 0, 0, 0] HR30.out hids hlid hF30.size ?_; intro A31 c31 w31 hr31 hg31 hm31; obtain ⟨hF31, hv31⟩ := Row.in hF30 HV30.out (Kept.of_grown hg31) hm31; have q31 := (hH.fresh hF31).c31)
  obtain ⟨l31, hq31⟩ : ∃ l : List Nat, l = l30 ++ [0, 0, 0, 0, 0, 0] := ⟨_, rfl⟩
  rw [← hq31] at hr31
  have hn31 : l31.length ≤ 78 := by rw [hq31, List.length_append]; simp only [List.length_cons, List.length_nil]; omega
  have HQ31 := Go.Lib.hid hq31
  have HR31 := Go.Lib.hid hr31
  have HV31 := Go.Lib.hid hv31
  clear hq31 hr31 hv31 hg31 hm31 HR30 HV30 hids hE30 hlid hn30
  refine (appendLE_at (a 31) 2 (by first | rfl | (rw [IntKind.wrap_u64]; have := HA.out 31; omega)) rfl (by decide) w.heap.size _ _ (by omega) _ HR31.out hF31.size).mono ?_
  rintro e w32 ⟨v32, rfl, hr32, hK32, hM32⟩
  obtain ⟨hF32, hv32⟩ := Row.in hF31 HV31.out hK32 hM32
  obtain ⟨l32, hq32⟩ : ∃ l : List Nat, l = l31 ++ leB (a 31) 2 := ⟨_, rfl⟩
  rw [← hq32] at hr32
  have hn32 : l32.length ≤ 80 := by rw [hq32, List.length_append, leB_length]; omega
  have HQ32 := Go.Lib.hid hq32
  have HR32 := Go.Lib.hid hr32
  clear hq32 hr32
  have HV32 := Go.Lib.hid hv32
  clear hv32 hK32 hM32 q31 HR31 HV31 hn31
  have q32 := (hH.fresh hF32).c32
  go_wp2_with (fail)
  refine (appendLE_at (a 32) 2 (by first | rfl | (rw [IntKind.wrap_u64]; have := HA.out 32; omega)) rfl (by decide) w.heap.size _ _ (by omega) _ HR32.out hF32.size).mono ?_
  rintro e w33 ⟨v33, rfl, hr33, hK33, hM33⟩
  obtain ⟨hF33, hv33⟩ := Row.in hF32 HV32.out hK33 hM33
  obtain ⟨l33, hq33⟩ : ∃ l : List Nat, l = l32 ++ leB (a 32) 2 := ⟨_, rfl⟩
  rw [← hq33] at hr33
  have hn33 : l33.length ≤ 82 := by rw [hq33, List.length_append, leB_length]; omega
  have HQ33 := Go.Lib.hid hq33
  have HR33 := Go.Lib.hid hr33
  clear hq33 hr33
  have HV33 := Go.Lib.hid hv33
  clear hv33 hK33 hM33 q32 HR32 HV32 hn32
  have q33 := (hH.fresh hF33).c33
  go_wp2_with (fail)
  refine (appendLE_at (a 33) 2 (by first | rfl | (rw [IntKind.wrap_u64]; have := HA.out 33; omega)) rfl (by decide) w.heap.size _ _ (by omega) _ HR33.out hF33.size).mono ?_
  rintro e w34 ⟨v34, rfl, hr34, hK34, hM34⟩
  obtain ⟨hF34, hv34⟩ := Row.in hF33 HV33.out hK34 hM34
  obtain ⟨l34, hq34⟩ : ∃ l : List Nat, l = l33 ++ leB (a 33) 2 := ⟨_, rfl⟩
  rw [← hq34] at hr34
  have hn34 : l34.length ≤ 84 := by rw [hq34, List.length_append, leB_length]; omega
  have HQ34 := Go.Lib.hid hq34
  have HR34 := Go.Lib.hid hr34
  clear hq34 hr34
  have HV34 := Go.Lib.hid hv34
  clear hv34 hK34 hM34 q33 HR33 HV33 hn33
  have q34 := (hH.fresh hF34).c34
  go_wp2_with (fail)
  refine (appendLE_at (a 34) 2 (by first | rfl | (rw [IntKind.wrap_u64]; have := HA.out 34; omega)) rfl (by decide) w.heap.size _ _ (by omega) _ HR34.out hF34.size).mono ?_
  rintro e w35 ⟨v35, rfl, hr35, hK35, hM35⟩
  obtain ⟨hF35, hv35⟩ := Row.in hF34 HV34.out hK35 hM35
  obtain ⟨l35, hq35⟩ : ∃ l : List Nat, l = l34 ++ leB (a 34) 2 := ⟨_, rfl⟩
  rw [← hq35] at hr35
  have hn35 : l35.length ≤ 86 := by rw [hq35, List.length_append, leB_length]; omega
  have HQ35 := Go.Lib.hid hq35
  have HR35 := Go.Lib.hid hr35
  clear hq35 hr35
  have HV35 := Go.Lib.hid hv35
  clear hv35 hK35 hM35 q34 HR34 HV34 hn34
  have q35 := (hH.fresh hF35).c35
  go_wp2_with (fail)
  refine (appendLE_at (a 35) 2 (by first | rfl | (rw [IntKind.wrap_u64]; have := HA.out 35; omega)) rfl (by decide) w.heap.size _ _ (by omega) _ HR35.out hF35.size).mono ?_
  rintro e w36 ⟨v36, rfl, hr36, hK36, hM36⟩
  obtain ⟨hF36, hv36⟩ := Row.in hF35 HV35.out hK36 hM36
  obtain ⟨l36, hq36⟩ : ∃ l : List Nat, l = l35 ++ leB (a 35) 2 := ⟨_, rfl⟩
  rw [← hq36] at hr36
  have hn36 : l36.length ≤ 88 := by rw [hq36, List.length_append, leB_length]; omega
  have HQ36 := Go.Lib.hid hq36
  have HR36 := Go.Lib.hid hr36
  clear hq36 hr36
  have HV36 := Go.Lib.hid hv36
  clear hv36 hK36 hM36 q35 HR35 HV35 hn35
  have q36 := (hH.fresh hF36).c36
  go_wp2_with (fail)
  refine (appendLE_at (a 36) 2 (by first | rfl | (rw [IntKind.wrap_u64]; have := HA.out 36; omega)) rfl (by decide) w.heap.size _ _ (by omega) _ HR36.out hF36.size).mono ?_
  rintro e w37 ⟨v37, rfl, hr37, hK37, hM37⟩
  obtain ⟨hF37, hv37⟩ := Row.in hF36 HV36.out hK37 hM37
  obtain ⟨l37, hq37⟩ : ∃ l : List Nat, l = l36 ++ leB (a 36) 2 := ⟨_, rfl⟩
  rw [← hq37] at hr37
  have hn37 : l37.length ≤ 90 := by rw [hq37, List.length_append, leB_length]; omega
  have HQ37 := Go.Lib.hid hq37
  have HR37 := Go.Lib.hid hr37
  clear hq37 hr37
  have HV37 := Go.Lib.hid hv37
  clear hv37 hK37 hM37 q36 HR36 HV36 hn36
  have q37 := (hH.fresh hF37).c37
  go_wp2_with (fail)
  refine (appendLE_at (a 37) 4 (by first | rfl | (rw [IntKind.wrap_u64]; have := HA.out 37; omega)) rfl (by decide) w.heap.size _ _ (by omega) _ HR37.out hF37.size).mono ?_
  rintro e w38 ⟨v38, rfl, hr38, hK38, hM38⟩
  obtain ⟨hF38, hv38⟩ := Row.in hF37 HV37.out hK38 hM38
  obtain ⟨l38, hq38⟩ : ∃ l : List Nat, l = l37 ++ leB (a 37) 4 := ⟨_, rfl⟩
  rw [← hq38] at hr38
  have hn38 : l38.length ≤ 94 := by rw [hq38, List.length_append, leB_length]; omega
  have HQ38 := Go.Lib.hid hq38
  have HR38 := Go.Lib.hid hr38
  clear hq38 hr38
  have HV38 := Go.Lib.hid hv38
  clear hv38 hK38 hM38 q37 HR37 HV37 hn37
  have hbytes : l38 = hdrBytes a := by
    rw [HQ38.out, HQ37.out, HQ36.out, HQ35.out, HQ34.out, HQ33.out, HQ32.out, HQ31.out, HQ30.out, HQ29.out, HQ28.out, HQ27.out, HQ26.out, HQ25.out, HQ24.out, HQ23.out, HQ22.out, HQ21.out, HQ20.out, HQ19.out, HQ18.out, HQ17.out, HQ16.out, HQ15.out, HQ14.out, HQ13.out, HQ12.out, HQ11.out, HQ10.out, HQ9.out, HQ8.out, HQ7.out, HQ6.out, HQ5.out, HQ4.out, HQ3.out, HQ2.out, HQ1.out, HQ0.out]
    rfl
  have HBY := Go.Lib.hid hbytes
  clear hbytes
  have hF := hF38
  have hO2 := hO.fresh hF38
  have HO2 := Go.Lib.hid hO2
  clear hO2
  have hme := methWrite111
  have hen := enter78
  go_wp2_with (fail)
  refine (write_any base g hb bb ps N C typ k v _ T l38 _ HO2.out hl HR38.out.bts (fun j hj hs => ?_) h9 hpN hNC hN hC (Nat.le_trans hbase hF38.size) (by omega)).mono ?_
  · have h1 := HV38.out j hj
    obtain ⟨_, _, L', hR', _⟩ := hO
    rcases hs with e | e | e | e
    · have := hR'.lt; omega
    · have := hR'.blk.lt; omega
    · have := hR'.wr.lt; omega
    · have := (hR'.wr.row.block j e).2; omega
  rintro e W ⟨rfl, k', v', hO3, hl3, K3, M3⟩
  rw [HBY.out] at hO3 hl3
  have HO3 := Go.Lib.hid hO3
  clear hO3
  go_wp2
  go_ret
  exact ⟨rfl, k', v', HO3.out, hl3, (hF38.mono (S := RawS g hb bb v) (fun _ _ h => h.elim)).trans K3 (fun _ _ h => h), fun b hb' => (M3 b hb').imp id (fun h => Nat.le_trans hF38.size h)⟩
end Go.Proofs.Ytahcaoenddapoaa
