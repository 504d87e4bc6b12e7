/- spec.raw and spec.Raw, at the elder dates. (Printed by gendrw.py.) -/
import Derived.Test.YtahcaoenddapoaaDsp
namespace Go.Proofs.Ytahcaoenddapoaa
open Go.RowKit

/-- The boxed column and value, and the writer. -/
structure RawAt (w : World) (c p : Nat) (v : Value) (l : List Nat) (base : Nat) (s d N o : Int) : Prop where
  sc : w.cell? ⟨c, 4, none⟩ = some (.int .i64 s)
  cd : w.cell? ⟨c + 1, 6, none⟩ = some (.int .i64 d)
  cn : w.cell? ⟨c + 1, 7, none⟩ = some (.int .i64 N)
  co : w.cell? ⟨c + 1, 8, none⟩ = some (.int .i64 o)
  wr : Wr w base p v l
  hp : c + 1 < p
  hb : c + 1 < base
  hpb : base ≤ p

theorem RawAt.drew {w : World} {c p : Nat} {v : Value} {l : List Nat} {base : Nat} {s d N o : Int} (h : RawAt w c p v l base s d N o) : RawAt w.drew c p v l base s d N o :=
  ⟨h.sc, h.cd, h.cn, h.co, h.wr.fresh (Kept.refl w _).drew, h.hp, h.hb, h.hpb⟩
theorem RawAt.drewN {w : World} {c p : Nat} {v : Value} {l : List Nat} {base : Nat} {s d N o : Int} (h : RawAt w c p v l base s d N o) (n : Nat) : RawAt (w.drewN n) c p v l base s d N o :=
  ⟨h.sc, h.cd, h.cn, h.co, h.wr.fresh ((Kept.refl w _).drewN n), h.hp, h.hb, h.hpb⟩

/-- Behind a put. -/
theorem RawAt.put {w w' : World} {c p : Nat} {v v' : Value} {l l' : List Nat} {base : Nat} {s d N o : Int} (h : RawAt w c p v l base s d N o) (hw : Wr w' base p v' l') (hk : Kept w w' (WrS p v)) : RawAt w' c p v' l' base s d N o := by
  have hv := h.wr.row.block
  have hp := h.hp
  have hb := h.hb
  have n0 : ¬ WrS p v c := fun e => by rcases e with e | e; omega; have := (hv c e).1; omega
  have n1 : ¬ WrS p v (c + 1) := fun e => by rcases e with e | e; omega; have := (hv _ e).1; omega
  exact ⟨hk.held h.sc n0, hk.held h.cd n1, hk.held h.cn n1, hk.held h.co n1, hw, hp, hb, h.hpb⟩

theorem put_raw {X Y : Int} (n k : Nat) (hX : X = (n : Int)) (hY : Y = (k : Int)) (hk : k ≤ 8) {w : World} {c p : Nat} {v : Value} {l : List Nat} {base : Nat} {s d N o : Int} (h : RawAt w c p v l base s d N o) (hl : l.length ≤ 1000) (hb : base ≤ w.heap.size) {w0 : World} (h0 : Kept w0 w (fun k => base ≤ k)) :
    Calls Try.prog 35 #[.pointer (some ⟨p, 0, none⟩), .int .u64 X, .int .i64 Y] w fun e w' => e = .returned (.tuple #[]) ∧ ∃ v', RawAt w' c p v' (l ++ leB n k) base s d N o ∧ Kept w0 w' (fun k => base ≤ k) ∧ base ≤ w'.heap.size :=
  (put_at n k hX hY p v l base hk (by omega) w h.wr hb).mono fun e w' ⟨he, v', hw', hK, _⟩ => by
    have hv := h.wr.row.block
    have hpb := h.hpb
    refine ⟨he, v', h.put hw' hK, h0.trans hK (fun j _ e => ?_), Nat.le_trans hb hK.size⟩
    rcases e with e | e
    · omega
    · exact (hv j e).1

/-- The world in which raw begins to put. -/
def rawW (w : World) (k sz s d N o : Int) : World := (((w.alloc (.cells #[.int .i64 0, .int .i64 k, .int .i64 sz, .int .i64 0, .int .i64 s, .string ⟨#[]⟩] 46)).alloc (.cells #[.bool false, .int .i64 0, .float .f64 0, .string ⟨#[]⟩, .slice none 0 0, .string ⟨#[]⟩, .int .i64 d, .int .i64 N, .int .i64 o] 44)).alloc (.cells #[] 5)).alloc (.cells #[.slice (some ⟨w.heap.size + 1 + 1, 0, none⟩) 0 0] 68)

theorem raw_start (w : World) (k sz s d N o : Int) : RawAt (rawW w k sz s d N o) w.heap.size (w.heap.size + 1 + 1 + 1) (.slice (some ⟨w.heap.size + 1 + 1, 0, none⟩) 0 0) [] (w.heap.size + 1 + 1) s d N o ∧ Fresh w (rawW w k sz s d N o) ∧ w.heap.size + 1 + 1 ≤ (rawW w k sz s d N o).heap.size := by
  unfold rawW
  generalize hA : w.alloc (.cells #[.int .i64 0, .int .i64 k, .int .i64 sz, .int .i64 0, .int .i64 s, .string ⟨#[]⟩] 46) = A
  have sA : A.heap.size = w.heap.size + 1 := by rw [← hA]; simp
  have a4 : A.cell? ⟨w.heap.size, 4, none⟩ = some (.int .i64 s) := by rw [← hA]; exact cell_of_row _ _ 4 _ _ _ (heap_alloc_new _ _)
  have FA : Fresh w A := by rw [← hA]; exact (Kept.refl w _).alloc _
  generalize hB : A.alloc (.cells #[.bool false, .int .i64 0, .float .f64 0, .string ⟨#[]⟩, .slice none 0 0, .string ⟨#[]⟩, .int .i64 d, .int .i64 N, .int .i64 o] 44) = B
  have sB : B.heap.size = w.heap.size + 1 + 1 := by rw [← hB]; simp [sA]
  have gB : B.heap[w.heap.size + 1]? = some (.cells #[.bool false, .int .i64 0, .float .f64 0, .string ⟨#[]⟩, .slice none 0 0, .string ⟨#[]⟩, .int .i64 d, .int .i64 N, .int .i64 o] 44) := by rw [← sA, ← hB]; exact heap_alloc_new _ _
  have FB : Fresh A B := by rw [← hB]; exact (Kept.refl A _).alloc _
  have hw := Wr.new B 68
  rw [sB] at hw
  have FC : Fresh B ((B.alloc (.cells #[] 5)).alloc (.cells #[.slice (some ⟨w.heap.size + 1 + 1, 0, none⟩) 0 0] 68)) := ((Kept.refl B _).alloc _).alloc _
  have FBC := FB.fresh FC
  exact ⟨⟨FBC.held (p := ⟨w.heap.size, 4, none⟩) a4 (fun h => h), FC.held (p := ⟨w.heap.size + 1, 6, none⟩) (cell_of_row _ _ 6 _ _ _ gB) (fun h => h), FC.held (p := ⟨w.heap.size + 1, 7, none⟩) (cell_of_row _ _ 7 _ _ _ gB) (fun h => h), FC.held (p := ⟨w.heap.size + 1, 8, none⟩) (cell_of_row _ _ 8 _ _ _ gB) (fun h => h), hw, by omega, by omega, by omega⟩, FA.fresh FBC, by have := FC.size; omega⟩

theorem leB_four (n : Nat) : leB n 4 = leB (n % 4294967296) 4 := by
  have h : ∀ t : Nat, leB t 4 = [t % 256, t / 256 % 256, t / 65536 % 256, t / 16777216 % 256] := fun t => by simp [leB, List.range_succ]
  rw [h, h]
  have h0 : n % 4294967296 % 256 = n % 256 := by omega
  have h1 : n % 4294967296 / 256 % 256 = n / 256 % 256 := by omega
  have h2 : n % 4294967296 / 65536 % 256 = n / 65536 % 256 := by omega
  have h3 : n % 4294967296 / 16777216 % 256 = n / 16777216 % 256 := by omega
  rw [h0, h1, h2, h3]

set_option maxRecDepth 100000 in
set_option maxHeartbeats 1000000 in
theorem raw8 (d N : Int) (x64 tm : Nat) (hd0 : 0 ≤ d) (hd1 : d ≤ 3652058) (hx : (x64 : Int) = (d - 693595) % 18446744073709551616) (hN0 : 0 ≤ N) (hN1 : N < 86400000000000) (htm : (N * 300 + 500000000) / 1000000000 = (tm : Int)) (w : World) : Calls Try.prog 61 #[colv 111 8 0, cellv d N 0] w fun e w' => ∃ v, e = .returned v ∧ Bts w' v (leB x64 4 ++ leB tm 4) ∧ Fresh w w' := by
  obtain ⟨D, hD⟩ : ∃ D : Int, D = d - 693595 := ⟨_, rfl⟩
  have e0 : IntKind.i64.wrap (d - 693595) = D := by rw [hD]; exact IntWalk.i64_in _ (by omega)
  have e1 : IntKind.u64.wrap D = (x64 : Int) := by rw [IntKind.wrap_u64, hx, hD]
  obtain ⟨X, hX⟩ : ∃ X : Int, X = (x64 : Int) := ⟨_, rfl⟩
  rw [← hX] at e1
  obtain ⟨A, hA⟩ : ∃ A : Int, A = N * 300 := ⟨_, rfl⟩
  have a0 : 0 ≤ A := by omega
  have a1 : A < 25920000000000000 := by omega
  have e2 : IntKind.i64.wrap (N * 300) = A := by rw [hA]; exact IntWalk.i64_in _ (by omega)
  obtain ⟨B, hB⟩ : ∃ B : Int, B = A + 500000000 := ⟨_, rfl⟩
  have b0 : 0 ≤ B := by omega
  have e3 : IntKind.i64.wrap (A + 500000000) = B := by rw [hB]; exact IntWalk.i64_in _ (by omega)
  obtain ⟨T, hT⟩ : ∃ T : Int, T = (tm : Int) := ⟨_, rfl⟩
  have e4 : B.tdiv 1000000000 = T := by rw [Int.tdiv_eq_ediv_of_nonneg b0]; omega
  have t0 : 0 ≤ T := by omega
  have t1 : T ≤ 25920001 := by omega
  have e5 : IntKind.i64.wrap T = T := IntWalk.i64_in _ (by omega)
  have e6 : IntKind.u64.wrap T = T := by rw [IntKind.wrap_u64]; omega
  have HX := Go.Lib.hid hX
  have HT := Go.Lib.hid hT
  clear hx htm hX hT hD hA hB
  obtain ⟨hR, hF, hsz⟩ := raw_start w 111 8 0 d N 0
  unfold rawW at hR hF hsz
  have HR := Go.Lib.hid hR
  have HF := Go.Lib.hid (hF.mono (S := fun k => w.heap.size + 1 + 1 ≤ k) (fun _ _ h => h.elim))
  have HSZ := Go.Lib.hid hsz
  clear hR hF hsz
  go_enter Try.func61, Try.ntmps61
  go_upto_region 28 with (fail)
  generalize ((((w.alloc (.cells #[.int .i64 0, .int .i64 111, .int .i64 8, .int .i64 0, .int .i64 0, .string ⟨#[]⟩] 46)).alloc (.cells #[.bool false, .int .i64 0, .float .f64 0, .string ⟨#[]⟩, .slice none 0 0, .string ⟨#[]⟩, .int .i64 d, .int .i64 N, .int .i64 0] 44)).alloc (.cells #[] 5)).alloc (.cells #[.slice (some ⟨w.heap.size + 1 + 1, 0, none⟩) 0 0] 68)) = W at *
  have c1 := HR.out.cd
  have c2 := HR.out.cn
  go_wp2_with (fail)
  refine (put_raw x64 4 HX.out rfl (by decide) HR.out (by decide) HSZ.out HF.out).mono ?_
  rintro e w1 ⟨rfl, v', hR1, hK1, hs1⟩
  have c3 := hR1.cn
  have HR1 := Go.Lib.hid hR1
  have HK1 := Go.Lib.hid hK1
  have HS1 := Go.Lib.hid hs1
  clear hR1 hK1 c1 c2 hs1
  go_wp2_with (fail)
  refine (put_raw tm 4 HT.out rfl (by decide) HR1.out (by simp [leB_length]) HS1.out HK1.out).mono ?_
  rintro e w2 ⟨rfl, v2, hR2, hK2, hs2⟩
  have c4 := hR2.wr.cell
  have HR2 := Go.Lib.hid hR2
  have HK2 := Go.Lib.hid hK2
  clear hR2 hK2 c3
  go_wp2
  go_ret
  exact ⟨v2, rfl, HR2.out.wr.row.bts, HK2.out.mono (fun k hk e => by omega)⟩

set_option maxRecDepth 100000 in
set_option maxHeartbeats 1000000 in
theorem raw4 (d N : Int) (x mn : Nat) (hx : d - 693595 = (x : Int)) (hx1 : x < 65536) (hN0 : 0 ≤ N) (hN1 : N < 86400000000000) (hmn : N / 60000000000 = (mn : Int)) (w : World) : Calls Try.prog 61 #[colv 111 4 0, cellv d N 0] w fun e w' => ∃ v, e = .returned v ∧ Bts w' v (leB x 2 ++ leB mn 2) ∧ Fresh w w' := by
  obtain ⟨D, hD⟩ : ∃ D : Int, D = (x : Int) := ⟨_, rfl⟩
  have d0 : 0 ≤ D := by omega
  have d1 : D < 65536 := by omega
  have d2 : d - 693595 = D := by omega
  have e0 : IntKind.i64.wrap (d - 693595) = D := by rw [d2]; exact IntWalk.i64_in _ (by omega)
  have e1 : IntKind.u64.wrap D = D := by rw [IntKind.wrap_u64]; omega
  obtain ⟨T, hT⟩ : ∃ T : Int, T = (mn : Int) := ⟨_, rfl⟩
  have e4 : N.tdiv 60000000000 = T := by rw [Int.tdiv_eq_ediv_of_nonneg hN0]; omega
  have t0 : 0 ≤ T := by omega
  have t1 : T ≤ 1440 := by omega
  have e5 : IntKind.i64.wrap T = T := IntWalk.i64_in _ (by omega)
  have e6 : IntKind.u64.wrap T = T := by rw [IntKind.wrap_u64]; omega
  have HX := Go.Lib.hid hD
  have HT := Go.Lib.hid hT
  clear hx hmn hT hD d2
  obtain ⟨hR, hF, hsz⟩ := raw_start w 111 4 0 d N 0
  unfold rawW at hR hF hsz
  have HR := Go.Lib.hid hR
  have HF := Go.Lib.hid (hF.mono (S := fun k => w.heap.size + 1 + 1 ≤ k) (fun _ _ h => h.elim))
  have HSZ := Go.Lib.hid hsz
  clear hR hF hsz
  go_enter Try.func61, Try.ntmps61
  go_upto_region 28 with (fail)
  generalize ((((w.alloc (.cells #[.int .i64 0, .int .i64 111, .int .i64 4, .int .i64 0, .int .i64 0, .string ⟨#[]⟩] 46)).alloc (.cells #[.bool false, .int .i64 0, .float .f64 0, .string ⟨#[]⟩, .slice none 0 0, .string ⟨#[]⟩, .int .i64 d, .int .i64 N, .int .i64 0] 44)).alloc (.cells #[] 5)).alloc (.cells #[.slice (some ⟨w.heap.size + 1 + 1, 0, none⟩) 0 0] 68)) = W at *
  have c1 := HR.out.cd
  have c2 := HR.out.cn
  go_wp2_with (fail)
  refine (put_raw x 2 HX.out rfl (by decide) HR.out (by decide) HSZ.out HF.out).mono ?_
  rintro e w1 ⟨rfl, v', hR1, hK1, hs1⟩
  have c3 := hR1.cn
  have HR1 := Go.Lib.hid hR1
  have HK1 := Go.Lib.hid hK1
  have HS1 := Go.Lib.hid hs1
  clear hR1 hK1 c1 c2 hs1
  go_wp2_with (fail)
  refine (put_raw mn 2 HT.out rfl (by decide) HR1.out (by simp [leB_length]) HS1.out HK1.out).mono ?_
  rintro e w2 ⟨rfl, v2, hR2, hK2, hs2⟩
  have c4 := hR2.wr.cell
  have HR2 := Go.Lib.hid hR2
  have HK2 := Go.Lib.hid hK2
  clear hR2 hK2 c3
  go_wp2
  go_ret
  exact ⟨v2, rfl, HR2.out.wr.row.bts, HK2.out.mono (fun k hk e => by omega)⟩

set_option maxRecDepth 100000 in
theorem Raw_any (k sz s d N o : Int) (l : List Nat) (h : ∀ w : World, Calls Try.prog 61 #[colv k sz s, cellv d N o] w fun e w' => ∃ v, e = .returned v ∧ Bts w' v l ∧ Fresh w w') (w : World) :
    Calls Try.prog 25 #[colv k sz s, cellv d N o] w fun e w' => ∃ v, e = .returned v ∧ Bts w' v l ∧ Fresh w w' := by
  have hF0 : Fresh w ((w.alloc (.cells #[.int .i64 0, .int .i64 k, .int .i64 sz, .int .i64 0, .int .i64 s, .string ⟨#[]⟩] 46)).alloc (.cells #[.bool false, .int .i64 0, .float .f64 0, .string ⟨#[]⟩, .slice none 0 0, .string ⟨#[]⟩, .int .i64 d, .int .i64 N, .int .i64 o] 44)) := ((Kept.refl w _).alloc _).alloc _
  have HF := Go.Lib.hid hF0
  have H := Go.Lib.hid h
  clear hF0 h
  go_enter Try.func25, Try.ntmps25
  go_wp2_with (fail)
  refine (H.out _).mono ?_
  rintro e w1 ⟨v, rfl, hb, hF⟩
  have HB := Go.Lib.hid hb
  have HF1 := Go.Lib.hid (HF.out.fresh hF)
  clear hb hF
  go_wp2
  go_ret
  exact ⟨v, rfl, HB.out, HF1.out⟩

end Go.Proofs.Ytahcaoenddapoaa
