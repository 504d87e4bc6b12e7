/- ZZEncodeDecimal. -/
import Derived.Test.YthmopakaikhjlaaGreatDoorSds
namespace Go.Proofs.YthmopakaikhjlaaGreatDoor
open Go.RowKit

theorem Big.new' (w : World) (T : TypeId) (neg : Bool) (v : Value) : Big (w.alloc (.cells #[.bool neg, v] T)) w.heap.size neg v :=
  ⟨cell_of_row _ _ _ _ T (0, 0) (heap_new w _), cell_of_row _ _ _ _ T (0, 0) (heap_new w _), fun j => frozen_of_row _ _ j _ T (heap_new w _), _, T, heap_new w _⟩
theorem leB_cons (v k : Nat) : leB v (k + 1) = v % 256 :: leB (v / 256) k := by
  unfold leB
  rw [List.range_succ_eq_map, List.map_cons, List.map_map]
  congr 1
  · simp
  · refine List.map_congr_left fun i _ => ?_
    show v / 256 ^ (i + 1) % 256 = v / 256 / 256 ^ i % 256
    rw [Nat.div_div_eq_div_mul, Nat.pow_succ, Nat.mul_comm]
theorem leB_zero (k : Nat) : leB 0 k = List.replicate k 0 := by
  induction k with
  | zero => rfl
  | succ k ih => rw [leB_cons, Nat.zero_mod, Nat.zero_div, ih, List.replicate_succ]
/-- A number's bytes, the lowest first, are its bytes backward. -/
theorem leB_bev : ∀ (k : Nat) (R : List Nat) (N : Nat), R.length = k → (∀ b ∈ R, b < 256) → k ≤ N → leB (bev R.reverse) N = R ++ List.replicate (N - k) 0
  | 0, R, N, hk, _, _ => by
    cases R with
    | nil => simp [bev, leB_zero]
    | cons a R => simp at hk
  | k + 1, R, N, hk, hb, hN => by
    cases R with
    | nil => simp at hk
    | cons a R =>
      obtain ⟨M, rfl⟩ : ∃ M, N = M + 1 := ⟨N - 1, by omega⟩
      have ha := hb a (by simp)
      rw [List.reverse_cons, bev_snoc, leB_cons]
      have h1 : (bev R.reverse * 256 + a) % 256 = a := by omega
      have h2 : (bev R.reverse * 256 + a) / 256 = bev R.reverse := by omega
      rw [h1, h2, leB_bev k R M (by simpa using hk) (fun b hb' => hb b (by simp [hb'])) (by omega)]
      rw [List.cons_append, show M + 1 - (k + 1) = M - k by omega]
theorem le_bytes (B : List Nat) (N v : Nat) (hv : bev B = v) (hb : ∀ b ∈ B, b < 256) (hN : B.length ≤ N) : B.reverse ++ List.replicate (N - B.length) 0 = leB v N := by
  have h := leB_bev B.reverse.length B.reverse N rfl (fun b hb' => hb b (by simpa using hb')) (by simpa using hN)
  rw [List.reverse_reverse, hv] at h
  rw [h, List.length_reverse]
/-- The list in the midst of the loop. -/
@[reducible] def mid (h : Nat) (B : List Nat) (N n i : Nat) : List Nat := h :: (List.replicate (n - i) 0 ++ ((B.take i).reverse ++ List.replicate (N - n) 0))
theorem mid_step (h : Nat) (B : List Nat) (N n i r b : Nat) (hr : n - i = r + 1) (htk : B.take (i + 1) = B.take i ++ [b]) : (mid h B N n i).set (r + 1) b = mid h B N n (i + 1) := by
  unfold mid
  rw [List.set_cons_succ, hr, set_zeros, show n - (i + 1) = r by omega, htk, List.reverse_append]
  rfl

set_option maxRecDepth 100000 in
set_option maxHeartbeats 4000000 in
theorem zzEnc4_any (s t : ByteArray) (sc : Nat) (eb : Addr) (prec : Nat) (neg : Bool) (ds : List Nat) (hp : prec ≤ 9) (hc : Clean s t sc) (hs : s.size ≤ 100) (hn : Numb t neg ds) (hz : neg = true → dv ds ≠ 0) (hb : dv ds < 256 ^ 4) (w : World) (he : w.cell? ⟨2, 0, none⟩ = some (eofV eb)) :
    Calls Tryz.prog 22 #[.string s, .int .u8 (prec : Int), .int .u8 (sc : Int)] w fun e w' => ∃ g, e = .returned (.tuple #[.slice (some ⟨g, 0, none⟩) 5 5, .nilIface]) ∧ Row w.heap.size w' (.slice (some ⟨g, 0, none⟩) 5 5) ((if neg then 0 else 1) :: leB (dv ds) 4) ∧ Fresh w w' := by
  have q1 : (prec : Int) ≤ 38 := by omega
  have q2 : (prec : Int) ≤ 9 := by omega
  obtain ⟨i0, hi, hz0, hz1, hz2⟩ := info_parts info5
  have HS := Go.Lib.hid (scale_any s t sc eb neg ds hc hs hn hz (Nat.lt_of_lt_of_le hb (Nat.pow_le_pow_right (by decide) (by decide))) w he)
  have HB := Go.Lib.hid hb
  have HZ := Go.Lib.hid hz
  clear hc hn hz hb he hs
  go_enter Tryz.func22, Tryz.ntmps22
  go_wp2_with (fail)
  refine HS.out.mono ?_
  rintro e w1 ⟨x0, x1, x2, x3, rfl, ⟨h0, h1, h2, h3⟩, hdn, hF1⟩
  have HX := Go.Lib.hid (And.intro h0 (And.intro h1 (And.intro h2 (And.intro h3 (And.intro hdn hF1)))))
  clear HS h0 h1 h2 h3 hdn hF1
  go_upto_region 2 with (fail)
  have hD := Deci.new w1 x0 x1 x2 x3 (!neg) 20 (sc : Int) 55
  have hF2 : Fresh w1 (w1.alloc (.cells (decCells x0 x1 x2 x3 (!neg) 20 (sc : Int)) 55)) := (Kept.refl w1 _).alloc _
  obtain ⟨d, hd⟩ : ∃ d, w1.heap.size = d := ⟨_, rfl⟩
  rw [hd] at hD ⊢
  generalize w1.alloc (.cells (decCells x0 x1 x2 x3 (!neg) 20 (sc : Int)) 55) = w2 at *
  have hds : w.heap.size ≤ d := by have := HX.out.2.2.2.2.2.size; omega
  have HD := Go.Lib.hid (And.intro hD (HX.out.2.2.2.2.2.fresh hF2))
  have hdl := hD.lt
  have hws : w.heap.size ≤ w2.heap.size := by have := hF2.size; omega
  clear hD hF2 hd
  go_upto_region 12 with (at_make; refine wpList_make_full _ rfl _ _ 28 rfl w2.heap.size 5 i0 (.int .u8 0) 1 Tryz.underlying28 hi hz0 hz1 .i64 .i64 _ _ 5 rfl rfl rfl rfl (by rw [hz2]; omega) (by unfold maxLen; omega) (Nat.le_refl _) ?_; intro w3 hown hgr)
  have hR : Row w2.heap.size w3 (.slice (some ⟨w2.heap.size, 0, none⟩) 5 5) (List.replicate 5 0) := RowK.of_own hown (by rw [Nat.mul_one]; show (madeCells #[.int .u8 0] _).toList = _; rw [toList_madeCells_one]; simp [ints]) rfl
  have hF3 : Fresh w2 w3 := (Kept.of_grown hgr).mono (fun _ _ h => by cases h)
  have hD3 := HD.out.1.kept hF3 (fun h => h)
  have p4 := hD3.c4
  have hgl := hF3.size
  have HD3 := Go.Lib.hid (And.intro hD3 (HD.out.2.fresh hF3))
  obtain ⟨g, hg⟩ : ∃ g, w2.heap.size = g := ⟨_, rfl⟩
  rw [hg] at hR hdl hgl hws ⊢
  clear hown hgr hD3 hF3 HD hg
  have HP := Go.Lib.hid (isPos_any d (!neg) w3 p4)
  go_wp2_with (fail)
  refine HP.out.mono ?_
  rintro e wp ⟨rfl, hw⟩
  replace hw := hw.symm
  subst hw
  have c0 := hR.cellAt 0 (by simp)
  have f0 := hR.frozenAt 0
  have HR := Go.Lib.hid hR
  clear hR HP p4
  cases neg with
  | true =>
    rw [show (!true) = false from rfl]
    go_upto_region 14 with (fail)
    have hRb : Row g w3 (.slice (some ⟨g, 0, none⟩) 5 5) (0 :: List.replicate 4 0) := HR.out
    have hDb := HD3.out.1
    have hFb := HD3.out.2
    have hpz : (false : Bool) = false → dn x0 x1 x2 x3 ≠ 0 := fun _ => by rw [HX.out.2.2.2.2.1]; exact HZ.out (by simp)
    obtain ⟨wb, hwb⟩ : ∃ wb, w3 = wb := ⟨_, rfl⟩
    rw [hwb] at hRb hDb hFb hgl ⊢
    have c0 := hDb.c0
    have c1 := hDb.c1
    have c2 := hDb.c2
    have c3 := hDb.c3
    have c4 := hDb.c4
    have c5 := hDb.c5
    have c6 := hDb.c6
    have HI := Go.Lib.hid (bigInt_any x0 x1 x2 x3 false 20 (sc : Int) wb HX.out.1 HX.out.2.1 HX.out.2.2.1 HX.out.2.2.2.1 hpz)
    have hgb := (hRb.block g rfl).2
    have HRb := Go.Lib.hid hRb
    have HFb := Go.Lib.hid hFb
    clear hRb hFb hpz
    go_wp2_with (fail)
    refine HI.out.mono ?_
    rintro e w4 ⟨ng, A, n, c, L', rfl, hNt, hv, hl, hn2, ht, hF4⟩
    have hs4 := hF4.size
    clear c0 c1 c2 c3 c4 c5 c6 HI ht
    go_upto_region 15 with (fail)
    have hX5 := Big.new' w4 61 ng (.slice A n c)
    have hF5 : Fresh w4 (w4.alloc (.cells #[.bool ng, .slice A n c] 61)) := (Kept.refl w4 _).alloc _
    obtain ⟨xb, hxb⟩ : ∃ xb, w4.heap.size = xb := ⟨_, rfl⟩
    rw [hxb] at hX5 hs4 ⊢
    have hs5 := hX5.lt
    generalize w4.alloc (.cells #[.bool ng, .slice A n c] 61) = w5 at *
    have hN5 := hNt.fresh hF5
    have hF6 : Fresh w5 (w5.alloc (.cells #[.bool false, .slice none 0 0] 61)) := (Kept.refl w5 _).alloc _
    have hA := abs_any w5.heap.size xb wb.heap.size false ng (.slice A n c) L' (w5.alloc (.cells #[.bool false, .slice none 0 0] 61)) (Big.new w5 61) (hX5.kept hF6 (fun h => h)) (by omega) (by omega) (hN5.fresh hF6) (by have := hF6.size; omega)
    have HA := Go.Lib.hid hA
    have hF5w : Fresh wb (w5.alloc (.cells #[.bool false, .slice none 0 0] 61)) := (hF4.fresh hF5).fresh hF6
    have HF5 := Go.Lib.hid hF5w
    have HV := Go.Lib.hid (And.intro hv (And.intro hl hn2))
    obtain ⟨zb, hzb⟩ : ∃ zb, w5.heap.size = zb := ⟨_, rfl⟩
    rw [hzb] at HA hs5
    clear hA hF5w hv hl hNt hN5 hF4 hF5 hF6 hX5 hxb
    go_wp2_with (fail)
    refine HA.out.mono ?_
    rintro e w7 ⟨rfl, v', hN7, hZ7, hK7⟩
    have HBY := Go.Lib.hid (intBytes_any zb false v' L' wb.heap.size w7 hZ7 hN7 (by have h1 := HV.out.2.1; have h2 := HV.out.2.2; omega))
    have HF7 := Go.Lib.hid (HF5.out.trans hK7 (S := fun k => False) (fun k hk e => by omega))
    clear HA hN7 hZ7 hK7
    go_wp2_with (fail)
    refine HBY.out.mono ?_
    rintro e w8 ⟨u, B, rfl, hBe, hF8, hub0⟩
    have h16 : B.length ≤ 4 := hBe.length_le (by rw [HV.out.1, HX.out.2.2.2.2.1]; exact HB.out)
    obtain ⟨A2, c2, hub, hlc, _, hu0, hus⟩ := hBe.bts
    subst hub
    have hub1 : ∀ ad, A2 = some ad → g < ad.block := fun ad h => by have h1 := hub0 ad _ _ (by rw [h]); have h2 := HF7.out.size; omega
    have HBe := Go.Lib.hid (And.intro hBe.val (And.intro hBe.lt (And.intro hu0 hus)))
    obtain ⟨n2, hn⟩ : ∃ n, B.length = n := ⟨_, rfl⟩
    have HN := Go.Lib.hid hn
    rw [hn] at h16 hlc ⊢
    have i16 : (n2 : Int) ≤ 4 := by omega
    have hFw8 := HF7.out.fresh hF8
    have HR8 := Go.Lib.hid (HRb.out.fresh hFw8)
    have HF8 := Go.Lib.hid (HFb.out.fresh hFw8)
    have HUB := Go.Lib.hid hub1
    clear hBe hu0 hus hn HBY hF8 hFw8 hn2 hub0 hub1
    go_wp2_with (fail)
    go_loopw [52] (fun s52 wr => ∃ i : Nat, i ≤ n2 ∧ s52 = .int .i64 (i : Int) ∧ Row g wr (.slice (some ⟨g, 0, none⟩) 5 5) (mid 0 B 4 n2 i) ∧ Kept w8 wr (fun k => k = g)) (fun s52 _ => n2 - (intOf s52).toNat)
    case atStart => exact ⟨0, Nat.zero_le _, rfl, by have h := HR8.out; unfold mid; rw [Nat.sub_zero, List.take_zero, List.reverse_nil, List.nil_append, List.replicate_append_replicate, show n2 + (4 - n2) = 4 by omega]; exact h, Kept.refl _ _⟩
    case round =>
      obtain ⟨i, hi2, rfl, hrow, hK⟩ := hrel
      have HI2 := Go.Lib.hid (And.intro hrow hK)
      clear hrow hK
      by_cases hin : i < n2
      · cases A2 with
        | none =>
          have h0 := HBe.out.2.2.1 rfl
          have h1 := HN.out
          rw [h0.1] at h1
          simp at h1
          omega
        | some ad =>
          obtain ⟨gB, o, rfl, hgl2, hcl⟩ := HBe.out.2.2.2 _ rfl
          have hiB : i < B.length := by rw [HN.out]; exact hin
          have hgne : g ≠ gB := Nat.ne_of_lt (HUB.out _ rfl)
          have cB := HI2.out.2.held (hcl i hiB) (fun e => hgne e.symm)
          obtain ⟨b, hb⟩ : ∃ b, B[i] = b := ⟨_, rfl⟩
          have hbl : b < 256 := by rw [← hb]; exact HBe.out.2.1 _ (List.getElem_mem hiB)
          have htk : B.take (i + 1) = B.take i ++ [b] := by rw [← hb]; exact List.take_succ_eq_append_getElem hiB
          rw [hb] at cB
          obtain ⟨r, hr⟩ : ∃ r, n2 - i = r + 1 := ⟨n2 - i - 1, by omega⟩
          have hml : r + 1 < (mid 0 B 4 n2 i).length := by unfold mid; simp; omega
          have cO := HI2.out.1.cellAt (r + 1) hml
          have fO := HI2.out.1.frozenAt (r + 1)
          obtain ⟨zz, hzz⟩ : ∃ zz, (mid 0 B 4 n2 i)[r + 1] = zz := ⟨_, rfl⟩
          rw [hzz] at cO
          have e1 : (n2 : Int) - (i : Int) = (r : Int) + 1 := by omega
          have HST := Go.Lib.hid (And.intro (HI2.out.1.stored (r + 1) b) (And.intro (mid_step 0 B 4 n2 i r b hr htk) hr))
          have b1 : (0 : Int) ≤ (b : Int) := by omega
          have b2 : (b : Int) ≤ 255 := by omega
          have j1 : (i : Int) < (n2 : Int) := by omega
          have j2 : (0 : Int) ≤ (i : Int) := by omega
          have j3 : (r : Int) + 1 < 5 := by omega
          clear hcl htk hb hml hzz hr
          go_wp2_with (fail)
          go_roundw
          case rel => exact ⟨i + 1, hin, rfl, by rw [← HST.out.2.1]; exact HST.out.1, HI2.out.2.setCell (p := ⟨g, r + 1, none⟩) (.inl rfl) _⟩
          case measure => simp [intOf]; omega
      · have hie : i = n2 := by omega
        subst hie
        have hfin : mid 0 B 4 i i = 0 :: leB (dv ds) 4 := by
          have h := le_bytes B 4 (dv ds) (by rw [HBe.out.1, HV.out.1, HX.out.2.2.2.2.1]) HBe.out.2.1 (by rw [HN.out]; exact h16)
          rw [HN.out] at h
          unfold mid
          rw [Nat.sub_self, List.replicate_zero, List.nil_append, ← HN.out, List.take_length, HN.out, h]
        have hF9 : Fresh w wr := HF8.out.trans HI2.out.2 (fun k hk e => by omega)
        have hrow := HI2.out.1
        rw [hfin] at hrow
        have HZZ := Go.Lib.hid (And.intro (hrow.lower hws) hF9)
        clear hfin hF9 hrow
        go_wp2_with (fail)
        go_ret2
        exact ⟨g, rfl, HZZ.out.1, HZZ.out.2⟩
  | false =>
    rw [show (!false) = true from rfl]
    go_upto_region 14 with (fail)
    have hRb : Row g _ (.slice (some ⟨g, 0, none⟩) 5 5) (1 :: List.replicate 4 0) := HR.out.stored 0 1
    have hKb : Kept w3 (w3.setCell ⟨g, 0, none⟩ (.int .u8 1)) (fun k => k = g) := (Kept.refl w3 (fun k => k = g)).setCell (p := ⟨g, 0, none⟩) (.inl rfl) _
    have hDb := HD3.out.1.kept hKb (fun e => by omega)
    have hFb : Fresh w (w3.setCell ⟨g, 0, none⟩ (.int .u8 1)) := HD3.out.2.trans hKb (fun k hk e => by omega)
    have hpz : (true : Bool) = false → dn x0 x1 x2 x3 ≠ 0 := fun h => by cases h
    have hgs := hKb.size
    obtain ⟨wb, hwb⟩ : ∃ wb, w3.setCell ⟨g, 0, none⟩ (.int .u8 1) = wb := ⟨_, rfl⟩
    rw [show (((1 : Nat) : Int)) = 1 from rfl] at hRb
    rw [hwb] at hRb hDb hFb hgs ⊢
    clear hKb
    have c0 := hDb.c0
    have c1 := hDb.c1
    have c2 := hDb.c2
    have c3 := hDb.c3
    have c4 := hDb.c4
    have c5 := hDb.c5
    have c6 := hDb.c6
    have HI := Go.Lib.hid (bigInt_any x0 x1 x2 x3 true 20 (sc : Int) wb HX.out.1 HX.out.2.1 HX.out.2.2.1 HX.out.2.2.2.1 hpz)
    have hgb := (hRb.block g rfl).2
    have HRb := Go.Lib.hid hRb
    have HFb := Go.Lib.hid hFb
    clear hRb hFb hpz
    go_wp2_with (fail)
    refine HI.out.mono ?_
    rintro e w4 ⟨ng, A, n, c, L', rfl, hNt, hv, hl, hn2, ht, hF4⟩
    have hs4 := hF4.size
    clear c0 c1 c2 c3 c4 c5 c6 HI ht
    go_upto_region 15 with (fail)
    have hX5 := Big.new' w4 61 ng (.slice A n c)
    have hF5 : Fresh w4 (w4.alloc (.cells #[.bool ng, .slice A n c] 61)) := (Kept.refl w4 _).alloc _
    obtain ⟨xb, hxb⟩ : ∃ xb, w4.heap.size = xb := ⟨_, rfl⟩
    rw [hxb] at hX5 hs4 ⊢
    have hs5 := hX5.lt
    generalize w4.alloc (.cells #[.bool ng, .slice A n c] 61) = w5 at *
    have hN5 := hNt.fresh hF5
    have hF6 : Fresh w5 (w5.alloc (.cells #[.bool false, .slice none 0 0] 61)) := (Kept.refl w5 _).alloc _
    have hA := abs_any w5.heap.size xb wb.heap.size false ng (.slice A n c) L' (w5.alloc (.cells #[.bool false, .slice none 0 0] 61)) (Big.new w5 61) (hX5.kept hF6 (fun h => h)) (by omega) (by omega) (hN5.fresh hF6) (by have := hF6.size; omega)
    have HA := Go.Lib.hid hA
    have hF5w : Fresh wb (w5.alloc (.cells #[.bool false, .slice none 0 0] 61)) := (hF4.fresh hF5).fresh hF6
    have HF5 := Go.Lib.hid hF5w
    have HV := Go.Lib.hid (And.intro hv (And.intro hl hn2))
    obtain ⟨zb, hzb⟩ : ∃ zb, w5.heap.size = zb := ⟨_, rfl⟩
    rw [hzb] at HA hs5
    clear hA hF5w hv hl hNt hN5 hF4 hF5 hF6 hX5 hxb
    go_wp2_with (fail)
    refine HA.out.mono ?_
    rintro e w7 ⟨rfl, v', hN7, hZ7, hK7⟩
    have HBY := Go.Lib.hid (intBytes_any zb false v' L' wb.heap.size w7 hZ7 hN7 (by have h1 := HV.out.2.1; have h2 := HV.out.2.2; omega))
    have HF7 := Go.Lib.hid (HF5.out.trans hK7 (S := fun k => False) (fun k hk e => by omega))
    clear HA hN7 hZ7 hK7
    go_wp2_with (fail)
    refine HBY.out.mono ?_
    rintro e w8 ⟨u, B, rfl, hBe, hF8, hub0⟩
    have h16 : B.length ≤ 4 := hBe.length_le (by rw [HV.out.1, HX.out.2.2.2.2.1]; exact HB.out)
    obtain ⟨A2, c2, hub, hlc, _, hu0, hus⟩ := hBe.bts
    subst hub
    have hub1 : ∀ ad, A2 = some ad → g < ad.block := fun ad h => by have h1 := hub0 ad _ _ (by rw [h]); have h2 := HF7.out.size; omega
    have HBe := Go.Lib.hid (And.intro hBe.val (And.intro hBe.lt (And.intro hu0 hus)))
    obtain ⟨n2, hn⟩ : ∃ n, B.length = n := ⟨_, rfl⟩
    have HN := Go.Lib.hid hn
    rw [hn] at h16 hlc ⊢
    have i16 : (n2 : Int) ≤ 4 := by omega
    have hFw8 := HF7.out.fresh hF8
    have HR8 := Go.Lib.hid (HRb.out.fresh hFw8)
    have HF8 := Go.Lib.hid (HFb.out.fresh hFw8)
    have HUB := Go.Lib.hid hub1
    clear hBe hu0 hus hn HBY hF8 hFw8 hn2 hub0 hub1
    go_wp2_with (fail)
    go_loopw [52] (fun s52 wr => ∃ i : Nat, i ≤ n2 ∧ s52 = .int .i64 (i : Int) ∧ Row g wr (.slice (some ⟨g, 0, none⟩) 5 5) (mid 1 B 4 n2 i) ∧ Kept w8 wr (fun k => k = g)) (fun s52 _ => n2 - (intOf s52).toNat)
    case atStart => exact ⟨0, Nat.zero_le _, rfl, by have h := HR8.out; unfold mid; rw [Nat.sub_zero, List.take_zero, List.reverse_nil, List.nil_append, List.replicate_append_replicate, show n2 + (4 - n2) = 4 by omega]; exact h, Kept.refl _ _⟩
    case round =>
      obtain ⟨i, hi2, rfl, hrow, hK⟩ := hrel
      have HI2 := Go.Lib.hid (And.intro hrow hK)
      clear hrow hK
      by_cases hin : i < n2
      · cases A2 with
        | none =>
          have h0 := HBe.out.2.2.1 rfl
          have h1 := HN.out
          rw [h0.1] at h1
          simp at h1
          omega
        | some ad =>
          obtain ⟨gB, o, rfl, hgl2, hcl⟩ := HBe.out.2.2.2 _ rfl
          have hiB : i < B.length := by rw [HN.out]; exact hin
          have hgne : g ≠ gB := Nat.ne_of_lt (HUB.out _ rfl)
          have cB := HI2.out.2.held (hcl i hiB) (fun e => hgne e.symm)
          obtain ⟨b, hb⟩ : ∃ b, B[i] = b := ⟨_, rfl⟩
          have hbl : b < 256 := by rw [← hb]; exact HBe.out.2.1 _ (List.getElem_mem hiB)
          have htk : B.take (i + 1) = B.take i ++ [b] := by rw [← hb]; exact List.take_succ_eq_append_getElem hiB
          rw [hb] at cB
          obtain ⟨r, hr⟩ : ∃ r, n2 - i = r + 1 := ⟨n2 - i - 1, by omega⟩
          have hml : r + 1 < (mid 1 B 4 n2 i).length := by unfold mid; simp; omega
          have cO := HI2.out.1.cellAt (r + 1) hml
          have fO := HI2.out.1.frozenAt (r + 1)
          obtain ⟨zz, hzz⟩ : ∃ zz, (mid 1 B 4 n2 i)[r + 1] = zz := ⟨_, rfl⟩
          rw [hzz] at cO
          have e1 : (n2 : Int) - (i : Int) = (r : Int) + 1 := by omega
          have HST := Go.Lib.hid (And.intro (HI2.out.1.stored (r + 1) b) (And.intro (mid_step 1 B 4 n2 i r b hr htk) hr))
          have b1 : (0 : Int) ≤ (b : Int) := by omega
          have b2 : (b : Int) ≤ 255 := by omega
          have j1 : (i : Int) < (n2 : Int) := by omega
          have j2 : (0 : Int) ≤ (i : Int) := by omega
          have j3 : (r : Int) + 1 < 5 := by omega
          clear hcl htk hb hml hzz hr
          go_wp2_with (fail)
          go_roundw
          case rel => exact ⟨i + 1, hin, rfl, by rw [← HST.out.2.1]; exact HST.out.1, HI2.out.2.setCell (p := ⟨g, r + 1, none⟩) (.inl rfl) _⟩
          case measure => simp [intOf]; omega
      · have hie : i = n2 := by omega
        subst hie
        have hfin : mid 1 B 4 i i = 1 :: leB (dv ds) 4 := by
          have h := le_bytes B 4 (dv ds) (by rw [HBe.out.1, HV.out.1, HX.out.2.2.2.2.1]) HBe.out.2.1 (by rw [HN.out]; exact h16)
          rw [HN.out] at h
          unfold mid
          rw [Nat.sub_self, List.replicate_zero, List.nil_append, ← HN.out, List.take_length, HN.out, h]
        have hF9 : Fresh w wr := HF8.out.trans HI2.out.2 (fun k hk e => by omega)
        have hrow := HI2.out.1
        rw [hfin] at hrow
        have HZZ := Go.Lib.hid (And.intro (hrow.lower hws) hF9)
        clear hfin hF9 hrow
        go_wp2_with (fail)
        go_ret2
        exact ⟨g, rfl, HZZ.out.1, HZZ.out.2⟩

set_option maxRecDepth 100000 in
set_option maxHeartbeats 4000000 in
theorem zzEnc8_any (s t : ByteArray) (sc : Nat) (eb : Addr) (prec : Nat) (neg : Bool) (ds : List Nat) (hp0 : 9 < prec) (hp : prec ≤ 19) (hc : Clean s t sc) (hs : s.size ≤ 100) (hn : Numb t neg ds) (hz : neg = true → dv ds ≠ 0) (hb : dv ds < 256 ^ 8) (w : World) (he : w.cell? ⟨2, 0, none⟩ = some (eofV eb)) :
    Calls Tryz.prog 22 #[.string s, .int .u8 (prec : Int), .int .u8 (sc : Int)] w fun e w' => ∃ g, e = .returned (.tuple #[.slice (some ⟨g, 0, none⟩) 9 9, .nilIface]) ∧ Row w.heap.size w' (.slice (some ⟨g, 0, none⟩) 9 9) ((if neg then 0 else 1) :: leB (dv ds) 8) ∧ Fresh w w' := by
  have q1 : (prec : Int) ≤ 38 := by omega
  have q2 : (prec : Int) ≤ 19 := by omega
  have q3 : (9 : Int) < (prec : Int) := by omega
  obtain ⟨i0, hi, hz0, hz1, hz2⟩ := info_parts info5
  have HS := Go.Lib.hid (scale_any s t sc eb neg ds hc hs hn hz (Nat.lt_of_lt_of_le hb (Nat.pow_le_pow_right (by decide) (by decide))) w he)
  have HB := Go.Lib.hid hb
  have HZ := Go.Lib.hid hz
  clear hc hn hz hb he hs
  go_enter Tryz.func22, Tryz.ntmps22
  go_wp2_with (fail)
  refine HS.out.mono ?_
  rintro e w1 ⟨x0, x1, x2, x3, rfl, ⟨h0, h1, h2, h3⟩, hdn, hF1⟩
  have HX := Go.Lib.hid (And.intro h0 (And.intro h1 (And.intro h2 (And.intro h3 (And.intro hdn hF1)))))
  clear HS h0 h1 h2 h3 hdn hF1
  go_upto_region 2 with (fail)
  have hD := Deci.new w1 x0 x1 x2 x3 (!neg) 20 (sc : Int) 55
  have hF2 : Fresh w1 (w1.alloc (.cells (decCells x0 x1 x2 x3 (!neg) 20 (sc : Int)) 55)) := (Kept.refl w1 _).alloc _
  obtain ⟨d, hd⟩ : ∃ d, w1.heap.size = d := ⟨_, rfl⟩
  rw [hd] at hD ⊢
  generalize w1.alloc (.cells (decCells x0 x1 x2 x3 (!neg) 20 (sc : Int)) 55) = w2 at *
  have hds : w.heap.size ≤ d := by have := HX.out.2.2.2.2.2.size; omega
  have HD := Go.Lib.hid (And.intro hD (HX.out.2.2.2.2.2.fresh hF2))
  have hdl := hD.lt
  have hws : w.heap.size ≤ w2.heap.size := by have := hF2.size; omega
  clear hD hF2 hd
  go_upto_region 12 with (at_make; refine wpList_make_full _ rfl _ _ 28 rfl w2.heap.size 5 i0 (.int .u8 0) 1 Tryz.underlying28 hi hz0 hz1 .i64 .i64 _ _ 9 rfl rfl rfl rfl (by rw [hz2]; omega) (by unfold maxLen; omega) (Nat.le_refl _) ?_; intro w3 hown hgr)
  have hR : Row w2.heap.size w3 (.slice (some ⟨w2.heap.size, 0, none⟩) 9 9) (List.replicate 9 0) := RowK.of_own hown (by rw [Nat.mul_one]; show (madeCells #[.int .u8 0] _).toList = _; rw [toList_madeCells_one]; simp [ints]) rfl
  have hF3 : Fresh w2 w3 := (Kept.of_grown hgr).mono (fun _ _ h => by cases h)
  have hD3 := HD.out.1.kept hF3 (fun h => h)
  have p4 := hD3.c4
  have hgl := hF3.size
  have HD3 := Go.Lib.hid (And.intro hD3 (HD.out.2.fresh hF3))
  obtain ⟨g, hg⟩ : ∃ g, w2.heap.size = g := ⟨_, rfl⟩
  rw [hg] at hR hdl hgl hws ⊢
  clear hown hgr hD3 hF3 HD hg
  have HP := Go.Lib.hid (isPos_any d (!neg) w3 p4)
  go_wp2_with (fail)
  refine HP.out.mono ?_
  rintro e wp ⟨rfl, hw⟩
  replace hw := hw.symm
  subst hw
  have c0 := hR.cellAt 0 (by simp)
  have f0 := hR.frozenAt 0
  have HR := Go.Lib.hid hR
  clear hR HP p4
  cases neg with
  | true =>
    rw [show (!true) = false from rfl]
    go_upto_region 14 with (fail)
    have hRb : Row g w3 (.slice (some ⟨g, 0, none⟩) 9 9) (0 :: List.replicate 8 0) := HR.out
    have hDb := HD3.out.1
    have hFb := HD3.out.2
    have hpz : (false : Bool) = false → dn x0 x1 x2 x3 ≠ 0 := fun _ => by rw [HX.out.2.2.2.2.1]; exact HZ.out (by simp)
    obtain ⟨wb, hwb⟩ : ∃ wb, w3 = wb := ⟨_, rfl⟩
    rw [hwb] at hRb hDb hFb hgl ⊢
    have c0 := hDb.c0
    have c1 := hDb.c1
    have c2 := hDb.c2
    have c3 := hDb.c3
    have c4 := hDb.c4
    have c5 := hDb.c5
    have c6 := hDb.c6
    have HI := Go.Lib.hid (bigInt_any x0 x1 x2 x3 false 20 (sc : Int) wb HX.out.1 HX.out.2.1 HX.out.2.2.1 HX.out.2.2.2.1 hpz)
    have hgb := (hRb.block g rfl).2
    have HRb := Go.Lib.hid hRb
    have HFb := Go.Lib.hid hFb
    clear hRb hFb hpz
    go_wp2_with (fail)
    refine HI.out.mono ?_
    rintro e w4 ⟨ng, A, n, c, L', rfl, hNt, hv, hl, hn2, ht, hF4⟩
    have hs4 := hF4.size
    clear c0 c1 c2 c3 c4 c5 c6 HI ht
    go_upto_region 15 with (fail)
    have hX5 := Big.new' w4 61 ng (.slice A n c)
    have hF5 : Fresh w4 (w4.alloc (.cells #[.bool ng, .slice A n c] 61)) := (Kept.refl w4 _).alloc _
    obtain ⟨xb, hxb⟩ : ∃ xb, w4.heap.size = xb := ⟨_, rfl⟩
    rw [hxb] at hX5 hs4 ⊢
    have hs5 := hX5.lt
    generalize w4.alloc (.cells #[.bool ng, .slice A n c] 61) = w5 at *
    have hN5 := hNt.fresh hF5
    have hF6 : Fresh w5 (w5.alloc (.cells #[.bool false, .slice none 0 0] 61)) := (Kept.refl w5 _).alloc _
    have hA := abs_any w5.heap.size xb wb.heap.size false ng (.slice A n c) L' (w5.alloc (.cells #[.bool false, .slice none 0 0] 61)) (Big.new w5 61) (hX5.kept hF6 (fun h => h)) (by omega) (by omega) (hN5.fresh hF6) (by have := hF6.size; omega)
    have HA := Go.Lib.hid hA
    have hF5w : Fresh wb (w5.alloc (.cells #[.bool false, .slice none 0 0] 61)) := (hF4.fresh hF5).fresh hF6
    have HF5 := Go.Lib.hid hF5w
    have HV := Go.Lib.hid (And.intro hv (And.intro hl hn2))
    obtain ⟨zb, hzb⟩ : ∃ zb, w5.heap.size = zb := ⟨_, rfl⟩
    rw [hzb] at HA hs5
    clear hA hF5w hv hl hNt hN5 hF4 hF5 hF6 hX5 hxb
    go_wp2_with (fail)
    refine HA.out.mono ?_
    rintro e w7 ⟨rfl, v', hN7, hZ7, hK7⟩
    have HBY := Go.Lib.hid (intBytes_any zb false v' L' wb.heap.size w7 hZ7 hN7 (by have h1 := HV.out.2.1; have h2 := HV.out.2.2; omega))
    have HF7 := Go.Lib.hid (HF5.out.trans hK7 (S := fun k => False) (fun k hk e => by omega))
    clear HA hN7 hZ7 hK7
    go_wp2_with (fail)
    refine HBY.out.mono ?_
    rintro e w8 ⟨u, B, rfl, hBe, hF8, hub0⟩
    have h16 : B.length ≤ 8 := hBe.length_le (by rw [HV.out.1, HX.out.2.2.2.2.1]; exact HB.out)
    obtain ⟨A2, c2, hub, hlc, _, hu0, hus⟩ := hBe.bts
    subst hub
    have hub1 : ∀ ad, A2 = some ad → g < ad.block := fun ad h => by have h1 := hub0 ad _ _ (by rw [h]); have h2 := HF7.out.size; omega
    have HBe := Go.Lib.hid (And.intro hBe.val (And.intro hBe.lt (And.intro hu0 hus)))
    obtain ⟨n2, hn⟩ : ∃ n, B.length = n := ⟨_, rfl⟩
    have HN := Go.Lib.hid hn
    rw [hn] at h16 hlc ⊢
    have i16 : (n2 : Int) ≤ 8 := by omega
    have hFw8 := HF7.out.fresh hF8
    have HR8 := Go.Lib.hid (HRb.out.fresh hFw8)
    have HF8 := Go.Lib.hid (HFb.out.fresh hFw8)
    have HUB := Go.Lib.hid hub1
    clear hBe hu0 hus hn HBY hF8 hFw8 hn2 hub0 hub1
    go_wp2_with (fail)
    go_loopw [52] (fun s52 wr => ∃ i : Nat, i ≤ n2 ∧ s52 = .int .i64 (i : Int) ∧ Row g wr (.slice (some ⟨g, 0, none⟩) 9 9) (mid 0 B 8 n2 i) ∧ Kept w8 wr (fun k => k = g)) (fun s52 _ => n2 - (intOf s52).toNat)
    case atStart => exact ⟨0, Nat.zero_le _, rfl, by have h := HR8.out; unfold mid; rw [Nat.sub_zero, List.take_zero, List.reverse_nil, List.nil_append, List.replicate_append_replicate, show n2 + (8 - n2) = 8 by omega]; exact h, Kept.refl _ _⟩
    case round =>
      obtain ⟨i, hi2, rfl, hrow, hK⟩ := hrel
      have HI2 := Go.Lib.hid (And.intro hrow hK)
      clear hrow hK
      by_cases hin : i < n2
      · cases A2 with
        | none =>
          have h0 := HBe.out.2.2.1 rfl
          have h1 := HN.out
          rw [h0.1] at h1
          simp at h1
          omega
        | some ad =>
          obtain ⟨gB, o, rfl, hgl2, hcl⟩ := HBe.out.2.2.2 _ rfl
          have hiB : i < B.length := by rw [HN.out]; exact hin
          have hgne : g ≠ gB := Nat.ne_of_lt (HUB.out _ rfl)
          have cB := HI2.out.2.held (hcl i hiB) (fun e => hgne e.symm)
          obtain ⟨b, hb⟩ : ∃ b, B[i] = b := ⟨_, rfl⟩
          have hbl : b < 256 := by rw [← hb]; exact HBe.out.2.1 _ (List.getElem_mem hiB)
          have htk : B.take (i + 1) = B.take i ++ [b] := by rw [← hb]; exact List.take_succ_eq_append_getElem hiB
          rw [hb] at cB
          obtain ⟨r, hr⟩ : ∃ r, n2 - i = r + 1 := ⟨n2 - i - 1, by omega⟩
          have hml : r + 1 < (mid 0 B 8 n2 i).length := by unfold mid; simp; omega
          have cO := HI2.out.1.cellAt (r + 1) hml
          have fO := HI2.out.1.frozenAt (r + 1)
          obtain ⟨zz, hzz⟩ : ∃ zz, (mid 0 B 8 n2 i)[r + 1] = zz := ⟨_, rfl⟩
          rw [hzz] at cO
          have e1 : (n2 : Int) - (i : Int) = (r : Int) + 1 := by omega
          have HST := Go.Lib.hid (And.intro (HI2.out.1.stored (r + 1) b) (And.intro (mid_step 0 B 8 n2 i r b hr htk) hr))
          have b1 : (0 : Int) ≤ (b : Int) := by omega
          have b2 : (b : Int) ≤ 255 := by omega
          have j1 : (i : Int) < (n2 : Int) := by omega
          have j2 : (0 : Int) ≤ (i : Int) := by omega
          have j3 : (r : Int) + 1 < 9 := by omega
          clear hcl htk hb hml hzz hr
          go_wp2_with (fail)
          go_roundw
          case rel => exact ⟨i + 1, hin, rfl, by rw [← HST.out.2.1]; exact HST.out.1, HI2.out.2.setCell (p := ⟨g, r + 1, none⟩) (.inl rfl) _⟩
          case measure => simp [intOf]; omega
      · have hie : i = n2 := by omega
        subst hie
        have hfin : mid 0 B 8 i i = 0 :: leB (dv ds) 8 := by
          have h := le_bytes B 8 (dv ds) (by rw [HBe.out.1, HV.out.1, HX.out.2.2.2.2.1]) HBe.out.2.1 (by rw [HN.out]; exact h16)
          rw [HN.out] at h
          unfold mid
          rw [Nat.sub_self, List.replicate_zero, List.nil_append, ← HN.out, List.take_length, HN.out, h]
        have hF9 : Fresh w wr := HF8.out.trans HI2.out.2 (fun k hk e => by omega)
        have hrow := HI2.out.1
        rw [hfin] at hrow
        have HZZ := Go.Lib.hid (And.intro (hrow.lower hws) hF9)
        clear hfin hF9 hrow
        go_wp2_with (fail)
        go_ret2
        exact ⟨g, rfl, HZZ.out.1, HZZ.out.2⟩
  | false =>
    rw [show (!false) = true from rfl]
    go_upto_region 14 with (fail)
    have hRb : Row g _ (.slice (some ⟨g, 0, none⟩) 9 9) (1 :: List.replicate 8 0) := HR.out.stored 0 1
    have hKb : Kept w3 (w3.setCell ⟨g, 0, none⟩ (.int .u8 1)) (fun k => k = g) := (Kept.refl w3 (fun k => k = g)).setCell (p := ⟨g, 0, none⟩) (.inl rfl) _
    have hDb := HD3.out.1.kept hKb (fun e => by omega)
    have hFb : Fresh w (w3.setCell ⟨g, 0, none⟩ (.int .u8 1)) := HD3.out.2.trans hKb (fun k hk e => by omega)
    have hpz : (true : Bool) = false → dn x0 x1 x2 x3 ≠ 0 := fun h => by cases h
    have hgs := hKb.size
    obtain ⟨wb, hwb⟩ : ∃ wb, w3.setCell ⟨g, 0, none⟩ (.int .u8 1) = wb := ⟨_, rfl⟩
    rw [show (((1 : Nat) : Int)) = 1 from rfl] at hRb
    rw [hwb] at hRb hDb hFb hgs ⊢
    clear hKb
    have c0 := hDb.c0
    have c1 := hDb.c1
    have c2 := hDb.c2
    have c3 := hDb.c3
    have c4 := hDb.c4
    have c5 := hDb.c5
    have c6 := hDb.c6
    have HI := Go.Lib.hid (bigInt_any x0 x1 x2 x3 true 20 (sc : Int) wb HX.out.1 HX.out.2.1 HX.out.2.2.1 HX.out.2.2.2.1 hpz)
    have hgb := (hRb.block g rfl).2
    have HRb := Go.Lib.hid hRb
    have HFb := Go.Lib.hid hFb
    clear hRb hFb hpz
    go_wp2_with (fail)
    refine HI.out.mono ?_
    rintro e w4 ⟨ng, A, n, c, L', rfl, hNt, hv, hl, hn2, ht, hF4⟩
    have hs4 := hF4.size
    clear c0 c1 c2 c3 c4 c5 c6 HI ht
    go_upto_region 15 with (fail)
    have hX5 := Big.new' w4 61 ng (.slice A n c)
    have hF5 : Fresh w4 (w4.alloc (.cells #[.bool ng, .slice A n c] 61)) := (Kept.refl w4 _).alloc _
    obtain ⟨xb, hxb⟩ : ∃ xb, w4.heap.size = xb := ⟨_, rfl⟩
    rw [hxb] at hX5 hs4 ⊢
    have hs5 := hX5.lt
    generalize w4.alloc (.cells #[.bool ng, .slice A n c] 61) = w5 at *
    have hN5 := hNt.fresh hF5
    have hF6 : Fresh w5 (w5.alloc (.cells #[.bool false, .slice none 0 0] 61)) := (Kept.refl w5 _).alloc _
    have hA := abs_any w5.heap.size xb wb.heap.size false ng (.slice A n c) L' (w5.alloc (.cells #[.bool false, .slice none 0 0] 61)) (Big.new w5 61) (hX5.kept hF6 (fun h => h)) (by omega) (by omega) (hN5.fresh hF6) (by have := hF6.size; omega)
    have HA := Go.Lib.hid hA
    have hF5w : Fresh wb (w5.alloc (.cells #[.bool false, .slice none 0 0] 61)) := (hF4.fresh hF5).fresh hF6
    have HF5 := Go.Lib.hid hF5w
    have HV := Go.Lib.hid (And.intro hv (And.intro hl hn2))
    obtain ⟨zb, hzb⟩ : ∃ zb, w5.heap.size = zb := ⟨_, rfl⟩
    rw [hzb] at HA hs5
    clear hA hF5w hv hl hNt hN5 hF4 hF5 hF6 hX5 hxb
    go_wp2_with (fail)
    refine HA.out.mono ?_
    rintro e w7 ⟨rfl, v', hN7, hZ7, hK7⟩
    have HBY := Go.Lib.hid (intBytes_any zb false v' L' wb.heap.size w7 hZ7 hN7 (by have h1 := HV.out.2.1; have h2 := HV.out.2.2; omega))
    have HF7 := Go.Lib.hid (HF5.out.trans hK7 (S := fun k => False) (fun k hk e => by omega))
    clear HA hN7 hZ7 hK7
    go_wp2_with (fail)
    refine HBY.out.mono ?_
    rintro e w8 ⟨u, B, rfl, hBe, hF8, hub0⟩
    have h16 : B.length ≤ 8 := hBe.length_le (by rw [HV.out.1, HX.out.2.2.2.2.1]; exact HB.out)
    obtain ⟨A2, c2, hub, hlc, _, hu0, hus⟩ := hBe.bts
    subst hub
    have hub1 : ∀ ad, A2 = some ad → g < ad.block := fun ad h => by have h1 := hub0 ad _ _ (by rw [h]); have h2 := HF7.out.size; omega
    have HBe := Go.Lib.hid (And.intro hBe.val (And.intro hBe.lt (And.intro hu0 hus)))
    obtain ⟨n2, hn⟩ : ∃ n, B.length = n := ⟨_, rfl⟩
    have HN := Go.Lib.hid hn
    rw [hn] at h16 hlc ⊢
    have i16 : (n2 : Int) ≤ 8 := by omega
    have hFw8 := HF7.out.fresh hF8
    have HR8 := Go.Lib.hid (HRb.out.fresh hFw8)
    have HF8 := Go.Lib.hid (HFb.out.fresh hFw8)
    have HUB := Go.Lib.hid hub1
    clear hBe hu0 hus hn HBY hF8 hFw8 hn2 hub0 hub1
    go_wp2_with (fail)
    go_loopw [52] (fun s52 wr => ∃ i : Nat, i ≤ n2 ∧ s52 = .int .i64 (i : Int) ∧ Row g wr (.slice (some ⟨g, 0, none⟩) 9 9) (mid 1 B 8 n2 i) ∧ Kept w8 wr (fun k => k = g)) (fun s52 _ => n2 - (intOf s52).toNat)
    case atStart => exact ⟨0, Nat.zero_le _, rfl, by have h := HR8.out; unfold mid; rw [Nat.sub_zero, List.take_zero, List.reverse_nil, List.nil_append, List.replicate_append_replicate, show n2 + (8 - n2) = 8 by omega]; exact h, Kept.refl _ _⟩
    case round =>
      obtain ⟨i, hi2, rfl, hrow, hK⟩ := hrel
      have HI2 := Go.Lib.hid (And.intro hrow hK)
      clear hrow hK
      by_cases hin : i < n2
      · cases A2 with
        | none =>
          have h0 := HBe.out.2.2.1 rfl
          have h1 := HN.out
          rw [h0.1] at h1
          simp at h1
          omega
        | some ad =>
          obtain ⟨gB, o, rfl, hgl2, hcl⟩ := HBe.out.2.2.2 _ rfl
          have hiB : i < B.length := by rw [HN.out]; exact hin
          have hgne : g ≠ gB := Nat.ne_of_lt (HUB.out _ rfl)
          have cB := HI2.out.2.held (hcl i hiB) (fun e => hgne e.symm)
          obtain ⟨b, hb⟩ : ∃ b, B[i] = b := ⟨_, rfl⟩
          have hbl : b < 256 := by rw [← hb]; exact HBe.out.2.1 _ (List.getElem_mem hiB)
          have htk : B.take (i + 1) = B.take i ++ [b] := by rw [← hb]; exact List.take_succ_eq_append_getElem hiB
          rw [hb] at cB
          obtain ⟨r, hr⟩ : ∃ r, n2 - i = r + 1 := ⟨n2 - i - 1, by omega⟩
          have hml : r + 1 < (mid 1 B 8 n2 i).length := by unfold mid; simp; omega
          have cO := HI2.out.1.cellAt (r + 1) hml
          have fO := HI2.out.1.frozenAt (r + 1)
          obtain ⟨zz, hzz⟩ : ∃ zz, (mid 1 B 8 n2 i)[r + 1] = zz := ⟨_, rfl⟩
          rw [hzz] at cO
          have e1 : (n2 : Int) - (i : Int) = (r : Int) + 1 := by omega
          have HST := Go.Lib.hid (And.intro (HI2.out.1.stored (r + 1) b) (And.intro (mid_step 1 B 8 n2 i r b hr htk) hr))
          have b1 : (0 : Int) ≤ (b : Int) := by omega
          have b2 : (b : Int) ≤ 255 := by omega
          have j1 : (i : Int) < (n2 : Int) := by omega
          have j2 : (0 : Int) ≤ (i : Int) := by omega
          have j3 : (r : Int) + 1 < 9 := by omega
          clear hcl htk hb hml hzz hr
          go_wp2_with (fail)
          go_roundw
          case rel => exact ⟨i + 1, hin, rfl, by rw [← HST.out.2.1]; exact HST.out.1, HI2.out.2.setCell (p := ⟨g, r + 1, none⟩) (.inl rfl) _⟩
          case measure => simp [intOf]; omega
      · have hie : i = n2 := by omega
        subst hie
        have hfin : mid 1 B 8 i i = 1 :: leB (dv ds) 8 := by
          have h := le_bytes B 8 (dv ds) (by rw [HBe.out.1, HV.out.1, HX.out.2.2.2.2.1]) HBe.out.2.1 (by rw [HN.out]; exact h16)
          rw [HN.out] at h
          unfold mid
          rw [Nat.sub_self, List.replicate_zero, List.nil_append, ← HN.out, List.take_length, HN.out, h]
        have hF9 : Fresh w wr := HF8.out.trans HI2.out.2 (fun k hk e => by omega)
        have hrow := HI2.out.1
        rw [hfin] at hrow
        have HZZ := Go.Lib.hid (And.intro (hrow.lower hws) hF9)
        clear hfin hF9 hrow
        go_wp2_with (fail)
        go_ret2
        exact ⟨g, rfl, HZZ.out.1, HZZ.out.2⟩

set_option maxRecDepth 100000 in
set_option maxHeartbeats 4000000 in
theorem zzEnc12_any (s t : ByteArray) (sc : Nat) (eb : Addr) (prec : Nat) (neg : Bool) (ds : List Nat) (hp0 : 19 < prec) (hp : prec ≤ 28) (hc : Clean s t sc) (hs : s.size ≤ 100) (hn : Numb t neg ds) (hz : neg = true → dv ds ≠ 0) (hb : dv ds < 256 ^ 12) (w : World) (he : w.cell? ⟨2, 0, none⟩ = some (eofV eb)) :
    Calls Tryz.prog 22 #[.string s, .int .u8 (prec : Int), .int .u8 (sc : Int)] w fun e w' => ∃ g, e = .returned (.tuple #[.slice (some ⟨g, 0, none⟩) 13 13, .nilIface]) ∧ Row w.heap.size w' (.slice (some ⟨g, 0, none⟩) 13 13) ((if neg then 0 else 1) :: leB (dv ds) 12) ∧ Fresh w w' := by
  have q1 : (prec : Int) ≤ 38 := by omega
  have q2 : (prec : Int) ≤ 28 := by omega
  have q3 : (19 : Int) < (prec : Int) := by omega
  obtain ⟨i0, hi, hz0, hz1, hz2⟩ := info_parts info5
  have HS := Go.Lib.hid (scale_any s t sc eb neg ds hc hs hn hz (Nat.lt_of_lt_of_le hb (Nat.pow_le_pow_right (by decide) (by decide))) w he)
  have HB := Go.Lib.hid hb
  have HZ := Go.Lib.hid hz
  clear hc hn hz hb he hs
  go_enter Tryz.func22, Tryz.ntmps22
  go_wp2_with (fail)
  refine HS.out.mono ?_
  rintro e w1 ⟨x0, x1, x2, x3, rfl, ⟨h0, h1, h2, h3⟩, hdn, hF1⟩
  have HX := Go.Lib.hid (And.intro h0 (And.intro h1 (And.intro h2 (And.intro h3 (And.intro hdn hF1)))))
  clear HS h0 h1 h2 h3 hdn hF1
  go_upto_region 2 with (fail)
  have hD := Deci.new w1 x0 x1 x2 x3 (!neg) 20 (sc : Int) 55
  have hF2 : Fresh w1 (w1.alloc (.cells (decCells x0 x1 x2 x3 (!neg) 20 (sc : Int)) 55)) := (Kept.refl w1 _).alloc _
  obtain ⟨d, hd⟩ : ∃ d, w1.heap.size = d := ⟨_, rfl⟩
  rw [hd] at hD ⊢
  generalize w1.alloc (.cells (decCells x0 x1 x2 x3 (!neg) 20 (sc : Int)) 55) = w2 at *
  have hds : w.heap.size ≤ d := by have := HX.out.2.2.2.2.2.size; omega
  have HD := Go.Lib.hid (And.intro hD (HX.out.2.2.2.2.2.fresh hF2))
  have hdl := hD.lt
  have hws : w.heap.size ≤ w2.heap.size := by have := hF2.size; omega
  clear hD hF2 hd
  go_upto_region 12 with (at_make; refine wpList_make_full _ rfl _ _ 28 rfl w2.heap.size 5 i0 (.int .u8 0) 1 Tryz.underlying28 hi hz0 hz1 .i64 .i64 _ _ 13 rfl rfl rfl rfl (by rw [hz2]; omega) (by unfold maxLen; omega) (Nat.le_refl _) ?_; intro w3 hown hgr)
  have hR : Row w2.heap.size w3 (.slice (some ⟨w2.heap.size, 0, none⟩) 13 13) (List.replicate 13 0) := RowK.of_own hown (by rw [Nat.mul_one]; show (madeCells #[.int .u8 0] _).toList = _; rw [toList_madeCells_one]; simp [ints]) rfl
  have hF3 : Fresh w2 w3 := (Kept.of_grown hgr).mono (fun _ _ h => by cases h)
  have hD3 := HD.out.1.kept hF3 (fun h => h)
  have p4 := hD3.c4
  have hgl := hF3.size
  have HD3 := Go.Lib.hid (And.intro hD3 (HD.out.2.fresh hF3))
  obtain ⟨g, hg⟩ : ∃ g, w2.heap.size = g := ⟨_, rfl⟩
  rw [hg] at hR hdl hgl hws ⊢
  clear hown hgr hD3 hF3 HD hg
  have HP := Go.Lib.hid (isPos_any d (!neg) w3 p4)
  go_wp2_with (fail)
  refine HP.out.mono ?_
  rintro e wp ⟨rfl, hw⟩
  replace hw := hw.symm
  subst hw
  have c0 := hR.cellAt 0 (by simp)
  have f0 := hR.frozenAt 0
  have HR := Go.Lib.hid hR
  clear hR HP p4
  cases neg with
  | true =>
    rw [show (!true) = false from rfl]
    go_upto_region 14 with (fail)
    have hRb : Row g w3 (.slice (some ⟨g, 0, none⟩) 13 13) (0 :: List.replicate 12 0) := HR.out
    have hDb := HD3.out.1
    have hFb := HD3.out.2
    have hpz : (false : Bool) = false → dn x0 x1 x2 x3 ≠ 0 := fun _ => by rw [HX.out.2.2.2.2.1]; exact HZ.out (by simp)
    obtain ⟨wb, hwb⟩ : ∃ wb, w3 = wb := ⟨_, rfl⟩
    rw [hwb] at hRb hDb hFb hgl ⊢
    have c0 := hDb.c0
    have c1 := hDb.c1
    have c2 := hDb.c2
    have c3 := hDb.c3
    have c4 := hDb.c4
    have c5 := hDb.c5
    have c6 := hDb.c6
    have HI := Go.Lib.hid (bigInt_any x0 x1 x2 x3 false 20 (sc : Int) wb HX.out.1 HX.out.2.1 HX.out.2.2.1 HX.out.2.2.2.1 hpz)
    have hgb := (hRb.block g rfl).2
    have HRb := Go.Lib.hid hRb
    have HFb := Go.Lib.hid hFb
    clear hRb hFb hpz
    go_wp2_with (fail)
    refine HI.out.mono ?_
    rintro e w4 ⟨ng, A, n, c, L', rfl, hNt, hv, hl, hn2, ht, hF4⟩
    have hs4 := hF4.size
    clear c0 c1 c2 c3 c4 c5 c6 HI ht
    go_upto_region 15 with (fail)
    have hX5 := Big.new' w4 61 ng (.slice A n c)
    have hF5 : Fresh w4 (w4.alloc (.cells #[.bool ng, .slice A n c] 61)) := (Kept.refl w4 _).alloc _
    obtain ⟨xb, hxb⟩ : ∃ xb, w4.heap.size = xb := ⟨_, rfl⟩
    rw [hxb] at hX5 hs4 ⊢
    have hs5 := hX5.lt
    generalize w4.alloc (.cells #[.bool ng, .slice A n c] 61) = w5 at *
    have hN5 := hNt.fresh hF5
    have hF6 : Fresh w5 (w5.alloc (.cells #[.bool false, .slice none 0 0] 61)) := (Kept.refl w5 _).alloc _
    have hA := abs_any w5.heap.size xb wb.heap.size false ng (.slice A n c) L' (w5.alloc (.cells #[.bool false, .slice none 0 0] 61)) (Big.new w5 61) (hX5.kept hF6 (fun h => h)) (by omega) (by omega) (hN5.fresh hF6) (by have := hF6.size; omega)
    have HA := Go.Lib.hid hA
    have hF5w : Fresh wb (w5.alloc (.cells #[.bool false, .slice none 0 0] 61)) := (hF4.fresh hF5).fresh hF6
    have HF5 := Go.Lib.hid hF5w
    have HV := Go.Lib.hid (And.intro hv (And.intro hl hn2))
    obtain ⟨zb, hzb⟩ : ∃ zb, w5.heap.size = zb := ⟨_, rfl⟩
    rw [hzb] at HA hs5
    clear hA hF5w hv hl hNt hN5 hF4 hF5 hF6 hX5 hxb
    go_wp2_with (fail)
    refine HA.out.mono ?_
    rintro e w7 ⟨rfl, v', hN7, hZ7, hK7⟩
    have HBY := Go.Lib.hid (intBytes_any zb false v' L' wb.heap.size w7 hZ7 hN7 (by have h1 := HV.out.2.1; have h2 := HV.out.2.2; omega))
    have HF7 := Go.Lib.hid (HF5.out.trans hK7 (S := fun k => False) (fun k hk e => by omega))
    clear HA hN7 hZ7 hK7
    go_wp2_with (fail)
    refine HBY.out.mono ?_
    rintro e w8 ⟨u, B, rfl, hBe, hF8, hub0⟩
    have h16 : B.length ≤ 12 := hBe.length_le (by rw [HV.out.1, HX.out.2.2.2.2.1]; exact HB.out)
    obtain ⟨A2, c2, hub, hlc, _, hu0, hus⟩ := hBe.bts
    subst hub
    have hub1 : ∀ ad, A2 = some ad → g < ad.block := fun ad h => by have h1 := hub0 ad _ _ (by rw [h]); have h2 := HF7.out.size; omega
    have HBe := Go.Lib.hid (And.intro hBe.val (And.intro hBe.lt (And.intro hu0 hus)))
    obtain ⟨n2, hn⟩ : ∃ n, B.length = n := ⟨_, rfl⟩
    have HN := Go.Lib.hid hn
    rw [hn] at h16 hlc ⊢
    have i16 : (n2 : Int) ≤ 12 := by omega
    have hFw8 := HF7.out.fresh hF8
    have HR8 := Go.Lib.hid (HRb.out.fresh hFw8)
    have HF8 := Go.Lib.hid (HFb.out.fresh hFw8)
    have HUB := Go.Lib.hid hub1
    clear hBe hu0 hus hn HBY hF8 hFw8 hn2 hub0 hub1
    go_wp2_with (fail)
    go_loopw [52] (fun s52 wr => ∃ i : Nat, i ≤ n2 ∧ s52 = .int .i64 (i : Int) ∧ Row g wr (.slice (some ⟨g, 0, none⟩) 13 13) (mid 0 B 12 n2 i) ∧ Kept w8 wr (fun k => k = g)) (fun s52 _ => n2 - (intOf s52).toNat)
    case atStart => exact ⟨0, Nat.zero_le _, rfl, by have h := HR8.out; unfold mid; rw [Nat.sub_zero, List.take_zero, List.reverse_nil, List.nil_append, List.replicate_append_replicate, show n2 + (12 - n2) = 12 by omega]; exact h, Kept.refl _ _⟩
    case round =>
      obtain ⟨i, hi2, rfl, hrow, hK⟩ := hrel
      have HI2 := Go.Lib.hid (And.intro hrow hK)
      clear hrow hK
      by_cases hin : i < n2
      · cases A2 with
        | none =>
          have h0 := HBe.out.2.2.1 rfl
          have h1 := HN.out
          rw [h0.1] at h1
          simp at h1
          omega
        | some ad =>
          obtain ⟨gB, o, rfl, hgl2, hcl⟩ := HBe.out.2.2.2 _ rfl
          have hiB : i < B.length := by rw [HN.out]; exact hin
          have hgne : g ≠ gB := Nat.ne_of_lt (HUB.out _ rfl)
          have cB := HI2.out.2.held (hcl i hiB) (fun e => hgne e.symm)
          obtain ⟨b, hb⟩ : ∃ b, B[i] = b := ⟨_, rfl⟩
          have hbl : b < 256 := by rw [← hb]; exact HBe.out.2.1 _ (List.getElem_mem hiB)
          have htk : B.take (i + 1) = B.take i ++ [b] := by rw [← hb]; exact List.take_succ_eq_append_getElem hiB
          rw [hb] at cB
          obtain ⟨r, hr⟩ : ∃ r, n2 - i = r + 1 := ⟨n2 - i - 1, by omega⟩
          have hml : r + 1 < (mid 0 B 12 n2 i).length := by unfold mid; simp; omega
          have cO := HI2.out.1.cellAt (r + 1) hml
          have fO := HI2.out.1.frozenAt (r + 1)
          obtain ⟨zz, hzz⟩ : ∃ zz, (mid 0 B 12 n2 i)[r + 1] = zz := ⟨_, rfl⟩
          rw [hzz] at cO
          have e1 : (n2 : Int) - (i : Int) = (r : Int) + 1 := by omega
          have HST := Go.Lib.hid (And.intro (HI2.out.1.stored (r + 1) b) (And.intro (mid_step 0 B 12 n2 i r b hr htk) hr))
          have b1 : (0 : Int) ≤ (b : Int) := by omega
          have b2 : (b : Int) ≤ 255 := by omega
          have j1 : (i : Int) < (n2 : Int) := by omega
          have j2 : (0 : Int) ≤ (i : Int) := by omega
          have j3 : (r : Int) + 1 < 13 := by omega
          clear hcl htk hb hml hzz hr
          go_wp2_with (fail)
          go_roundw
          case rel => exact ⟨i + 1, hin, rfl, by rw [← HST.out.2.1]; exact HST.out.1, HI2.out.2.setCell (p := ⟨g, r + 1, none⟩) (.inl rfl) _⟩
          case measure => simp [intOf]; omega
      · have hie : i = n2 := by omega
        subst hie
        have hfin : mid 0 B 12 i i = 0 :: leB (dv ds) 12 := by
          have h := le_bytes B 12 (dv ds) (by rw [HBe.out.1, HV.out.1, HX.out.2.2.2.2.1]) HBe.out.2.1 (by rw [HN.out]; exact h16)
          rw [HN.out] at h
          unfold mid
          rw [Nat.sub_self, List.replicate_zero, List.nil_append, ← HN.out, List.take_length, HN.out, h]
        have hF9 : Fresh w wr := HF8.out.trans HI2.out.2 (fun k hk e => by omega)
        have hrow := HI2.out.1
        rw [hfin] at hrow
        have HZZ := Go.Lib.hid (And.intro (hrow.lower hws) hF9)
        clear hfin hF9 hrow
        go_wp2_with (fail)
        go_ret2
        exact ⟨g, rfl, HZZ.out.1, HZZ.out.2⟩
  | false =>
    rw [show (!false) = true from rfl]
    go_upto_region 14 with (fail)
    have hRb : Row g _ (.slice (some ⟨g, 0, none⟩) 13 13) (1 :: List.replicate 12 0) := HR.out.stored 0 1
    have hKb : Kept w3 (w3.setCell ⟨g, 0, none⟩ (.int .u8 1)) (fun k => k = g) := (Kept.refl w3 (fun k => k = g)).setCell (p := ⟨g, 0, none⟩) (.inl rfl) _
    have hDb := HD3.out.1.kept hKb (fun e => by omega)
    have hFb : Fresh w (w3.setCell ⟨g, 0, none⟩ (.int .u8 1)) := HD3.out.2.trans hKb (fun k hk e => by omega)
    have hpz : (true : Bool) = false → dn x0 x1 x2 x3 ≠ 0 := fun h => by cases h
    have hgs := hKb.size
    obtain ⟨wb, hwb⟩ : ∃ wb, w3.setCell ⟨g, 0, none⟩ (.int .u8 1) = wb := ⟨_, rfl⟩
    rw [show (((1 : Nat) : Int)) = 1 from rfl] at hRb
    rw [hwb] at hRb hDb hFb hgs ⊢
    clear hKb
    have c0 := hDb.c0
    have c1 := hDb.c1
    have c2 := hDb.c2
    have c3 := hDb.c3
    have c4 := hDb.c4
    have c5 := hDb.c5
    have c6 := hDb.c6
    have HI := Go.Lib.hid (bigInt_any x0 x1 x2 x3 true 20 (sc : Int) wb HX.out.1 HX.out.2.1 HX.out.2.2.1 HX.out.2.2.2.1 hpz)
    have hgb := (hRb.block g rfl).2
    have HRb := Go.Lib.hid hRb
    have HFb := Go.Lib.hid hFb
    clear hRb hFb hpz
    go_wp2_with (fail)
    refine HI.out.mono ?_
    rintro e w4 ⟨ng, A, n, c, L', rfl, hNt, hv, hl, hn2, ht, hF4⟩
    have hs4 := hF4.size
    clear c0 c1 c2 c3 c4 c5 c6 HI ht
    go_upto_region 15 with (fail)
    have hX5 := Big.new' w4 61 ng (.slice A n c)
    have hF5 : Fresh w4 (w4.alloc (.cells #[.bool ng, .slice A n c] 61)) := (Kept.refl w4 _).alloc _
    obtain ⟨xb, hxb⟩ : ∃ xb, w4.heap.size = xb := ⟨_, rfl⟩
    rw [hxb] at hX5 hs4 ⊢
    have hs5 := hX5.lt
    generalize w4.alloc (.cells #[.bool ng, .slice A n c] 61) = w5 at *
    have hN5 := hNt.fresh hF5
    have hF6 : Fresh w5 (w5.alloc (.cells #[.bool false, .slice none 0 0] 61)) := (Kept.refl w5 _).alloc _
    have hA := abs_any w5.heap.size xb wb.heap.size false ng (.slice A n c) L' (w5.alloc (.cells #[.bool false, .slice none 0 0] 61)) (Big.new w5 61) (hX5.kept hF6 (fun h => h)) (by omega) (by omega) (hN5.fresh hF6) (by have := hF6.size; omega)
    have HA := Go.Lib.hid hA
    have hF5w : Fresh wb (w5.alloc (.cells #[.bool false, .slice none 0 0] 61)) := (hF4.fresh hF5).fresh hF6
    have HF5 := Go.Lib.hid hF5w
    have HV := Go.Lib.hid (And.intro hv (And.intro hl hn2))
    obtain ⟨zb, hzb⟩ : ∃ zb, w5.heap.size = zb := ⟨_, rfl⟩
    rw [hzb] at HA hs5
    clear hA hF5w hv hl hNt hN5 hF4 hF5 hF6 hX5 hxb
    go_wp2_with (fail)
    refine HA.out.mono ?_
    rintro e w7 ⟨rfl, v', hN7, hZ7, hK7⟩
    have HBY := Go.Lib.hid (intBytes_any zb false v' L' wb.heap.size w7 hZ7 hN7 (by have h1 := HV.out.2.1; have h2 := HV.out.2.2; omega))
    have HF7 := Go.Lib.hid (HF5.out.trans hK7 (S := fun k => False) (fun k hk e => by omega))
    clear HA hN7 hZ7 hK7
    go_wp2_with (fail)
    refine HBY.out.mono ?_
    rintro e w8 ⟨u, B, rfl, hBe, hF8, hub0⟩
    have h16 : B.length ≤ 12 := hBe.length_le (by rw [HV.out.1, HX.out.2.2.2.2.1]; exact HB.out)
    obtain ⟨A2, c2, hub, hlc, _, hu0, hus⟩ := hBe.bts
    subst hub
    have hub1 : ∀ ad, A2 = some ad → g < ad.block := fun ad h => by have h1 := hub0 ad _ _ (by rw [h]); have h2 := HF7.out.size; omega
    have HBe := Go.Lib.hid (And.intro hBe.val (And.intro hBe.lt (And.intro hu0 hus)))
    obtain ⟨n2, hn⟩ : ∃ n, B.length = n := ⟨_, rfl⟩
    have HN := Go.Lib.hid hn
    rw [hn] at h16 hlc ⊢
    have i16 : (n2 : Int) ≤ 12 := by omega
    have hFw8 := HF7.out.fresh hF8
    have HR8 := Go.Lib.hid (HRb.out.fresh hFw8)
    have HF8 := Go.Lib.hid (HFb.out.fresh hFw8)
    have HUB := Go.Lib.hid hub1
    clear hBe hu0 hus hn HBY hF8 hFw8 hn2 hub0 hub1
    go_wp2_with (fail)
    go_loopw [52] (fun s52 wr => ∃ i : Nat, i ≤ n2 ∧ s52 = .int .i64 (i : Int) ∧ Row g wr (.slice (some ⟨g, 0, none⟩) 13 13) (mid 1 B 12 n2 i) ∧ Kept w8 wr (fun k => k = g)) (fun s52 _ => n2 - (intOf s52).toNat)
    case atStart => exact ⟨0, Nat.zero_le _, rfl, by have h := HR8.out; unfold mid; rw [Nat.sub_zero, List.take_zero, List.reverse_nil, List.nil_append, List.replicate_append_replicate, show n2 + (12 - n2) = 12 by omega]; exact h, Kept.refl _ _⟩
    case round =>
      obtain ⟨i, hi2, rfl, hrow, hK⟩ := hrel
      have HI2 := Go.Lib.hid (And.intro hrow hK)
      clear hrow hK
      by_cases hin : i < n2
      · cases A2 with
        | none =>
          have h0 := HBe.out.2.2.1 rfl
          have h1 := HN.out
          rw [h0.1] at h1
          simp at h1
          omega
        | some ad =>
          obtain ⟨gB, o, rfl, hgl2, hcl⟩ := HBe.out.2.2.2 _ rfl
          have hiB : i < B.length := by rw [HN.out]; exact hin
          have hgne : g ≠ gB := Nat.ne_of_lt (HUB.out _ rfl)
          have cB := HI2.out.2.held (hcl i hiB) (fun e => hgne e.symm)
          obtain ⟨b, hb⟩ : ∃ b, B[i] = b := ⟨_, rfl⟩
          have hbl : b < 256 := by rw [← hb]; exact HBe.out.2.1 _ (List.getElem_mem hiB)
          have htk : B.take (i + 1) = B.take i ++ [b] := by rw [← hb]; exact List.take_succ_eq_append_getElem hiB
          rw [hb] at cB
          obtain ⟨r, hr⟩ : ∃ r, n2 - i = r + 1 := ⟨n2 - i - 1, by omega⟩
          have hml : r + 1 < (mid 1 B 12 n2 i).length := by unfold mid; simp; omega
          have cO := HI2.out.1.cellAt (r + 1) hml
          have fO := HI2.out.1.frozenAt (r + 1)
          obtain ⟨zz, hzz⟩ : ∃ zz, (mid 1 B 12 n2 i)[r + 1] = zz := ⟨_, rfl⟩
          rw [hzz] at cO
          have e1 : (n2 : Int) - (i : Int) = (r : Int) + 1 := by omega
          have HST := Go.Lib.hid (And.intro (HI2.out.1.stored (r + 1) b) (And.intro (mid_step 1 B 12 n2 i r b hr htk) hr))
          have b1 : (0 : Int) ≤ (b : Int) := by omega
          have b2 : (b : Int) ≤ 255 := by omega
          have j1 : (i : Int) < (n2 : Int) := by omega
          have j2 : (0 : Int) ≤ (i : Int) := by omega
          have j3 : (r : Int) + 1 < 13 := by omega
          clear hcl htk hb hml hzz hr
          go_wp2_with (fail)
          go_roundw
          case rel => exact ⟨i + 1, hin, rfl, by rw [← HST.out.2.1]; exact HST.out.1, HI2.out.2.setCell (p := ⟨g, r + 1, none⟩) (.inl rfl) _⟩
          case measure => simp [intOf]; omega
      · have hie : i = n2 := by omega
        subst hie
        have hfin : mid 1 B 12 i i = 1 :: leB (dv ds) 12 := by
          have h := le_bytes B 12 (dv ds) (by rw [HBe.out.1, HV.out.1, HX.out.2.2.2.2.1]) HBe.out.2.1 (by rw [HN.out]; exact h16)
          rw [HN.out] at h
          unfold mid
          rw [Nat.sub_self, List.replicate_zero, List.nil_append, ← HN.out, List.take_length, HN.out, h]
        have hF9 : Fresh w wr := HF8.out.trans HI2.out.2 (fun k hk e => by omega)
        have hrow := HI2.out.1
        rw [hfin] at hrow
        have HZZ := Go.Lib.hid (And.intro (hrow.lower hws) hF9)
        clear hfin hF9 hrow
        go_wp2_with (fail)
        go_ret2
        exact ⟨g, rfl, HZZ.out.1, HZZ.out.2⟩

set_option maxRecDepth 100000 in
set_option maxHeartbeats 4000000 in
theorem zzEnc16_any (s t : ByteArray) (sc : Nat) (eb : Addr) (prec : Nat) (neg : Bool) (ds : List Nat) (hp0 : 28 < prec) (hp : prec ≤ 38) (hc : Clean s t sc) (hs : s.size ≤ 100) (hn : Numb t neg ds) (hz : neg = true → dv ds ≠ 0) (hb : dv ds < 256 ^ 16) (w : World) (he : w.cell? ⟨2, 0, none⟩ = some (eofV eb)) :
    Calls Tryz.prog 22 #[.string s, .int .u8 (prec : Int), .int .u8 (sc : Int)] w fun e w' => ∃ g, e = .returned (.tuple #[.slice (some ⟨g, 0, none⟩) 17 17, .nilIface]) ∧ Row w.heap.size w' (.slice (some ⟨g, 0, none⟩) 17 17) ((if neg then 0 else 1) :: leB (dv ds) 16) ∧ Fresh w w' := by
  have q1 : (prec : Int) ≤ 38 := by omega
  have q3 : (28 : Int) < (prec : Int) := by omega
  obtain ⟨i0, hi, hz0, hz1, hz2⟩ := info_parts info5
  have HS := Go.Lib.hid (scale_any s t sc eb neg ds hc hs hn hz (Nat.lt_of_lt_of_le hb (Nat.pow_le_pow_right (by decide) (by decide))) w he)
  have HB := Go.Lib.hid hb
  have HZ := Go.Lib.hid hz
  clear hc hn hz hb he hs
  go_enter Tryz.func22, Tryz.ntmps22
  go_wp2_with (fail)
  refine HS.out.mono ?_
  rintro e w1 ⟨x0, x1, x2, x3, rfl, ⟨h0, h1, h2, h3⟩, hdn, hF1⟩
  have HX := Go.Lib.hid (And.intro h0 (And.intro h1 (And.intro h2 (And.intro h3 (And.intro hdn hF1)))))
  clear HS h0 h1 h2 h3 hdn hF1
  go_upto_region 2 with (fail)
  have hD := Deci.new w1 x0 x1 x2 x3 (!neg) 20 (sc : Int) 55
  have hF2 : Fresh w1 (w1.alloc (.cells (decCells x0 x1 x2 x3 (!neg) 20 (sc : Int)) 55)) := (Kept.refl w1 _).alloc _
  obtain ⟨d, hd⟩ : ∃ d, w1.heap.size = d := ⟨_, rfl⟩
  rw [hd] at hD ⊢
  generalize w1.alloc (.cells (decCells x0 x1 x2 x3 (!neg) 20 (sc : Int)) 55) = w2 at *
  have hds : w.heap.size ≤ d := by have := HX.out.2.2.2.2.2.size; omega
  have HD := Go.Lib.hid (And.intro hD (HX.out.2.2.2.2.2.fresh hF2))
  have hdl := hD.lt
  have hws : w.heap.size ≤ w2.heap.size := by have := hF2.size; omega
  clear hD hF2 hd
  go_upto_region 12 with (at_make; refine wpList_make_full _ rfl _ _ 28 rfl w2.heap.size 5 i0 (.int .u8 0) 1 Tryz.underlying28 hi hz0 hz1 .i64 .i64 _ _ 17 rfl rfl rfl rfl (by rw [hz2]; omega) (by unfold maxLen; omega) (Nat.le_refl _) ?_; intro w3 hown hgr)
  have hR : Row w2.heap.size w3 (.slice (some ⟨w2.heap.size, 0, none⟩) 17 17) (List.replicate 17 0) := RowK.of_own hown (by rw [Nat.mul_one]; show (madeCells #[.int .u8 0] _).toList = _; rw [toList_madeCells_one]; simp [ints]) rfl
  have hF3 : Fresh w2 w3 := (Kept.of_grown hgr).mono (fun _ _ h => by cases h)
  have hD3 := HD.out.1.kept hF3 (fun h => h)
  have p4 := hD3.c4
  have hgl := hF3.size
  have HD3 := Go.Lib.hid (And.intro hD3 (HD.out.2.fresh hF3))
  obtain ⟨g, hg⟩ : ∃ g, w2.heap.size = g := ⟨_, rfl⟩
  rw [hg] at hR hdl hgl hws ⊢
  clear hown hgr hD3 hF3 HD hg
  have HP := Go.Lib.hid (isPos_any d (!neg) w3 p4)
  go_wp2_with (fail)
  refine HP.out.mono ?_
  rintro e wp ⟨rfl, hw⟩
  replace hw := hw.symm
  subst hw
  have c0 := hR.cellAt 0 (by simp)
  have f0 := hR.frozenAt 0
  have HR := Go.Lib.hid hR
  clear hR HP p4
  cases neg with
  | true =>
    rw [show (!true) = false from rfl]
    go_upto_region 14 with (fail)
    have hRb : Row g w3 (.slice (some ⟨g, 0, none⟩) 17 17) (0 :: List.replicate 16 0) := HR.out
    have hDb := HD3.out.1
    have hFb := HD3.out.2
    have hpz : (false : Bool) = false → dn x0 x1 x2 x3 ≠ 0 := fun _ => by rw [HX.out.2.2.2.2.1]; exact HZ.out (by simp)
    obtain ⟨wb, hwb⟩ : ∃ wb, w3 = wb := ⟨_, rfl⟩
    rw [hwb] at hRb hDb hFb hgl ⊢
    have c0 := hDb.c0
    have c1 := hDb.c1
    have c2 := hDb.c2
    have c3 := hDb.c3
    have c4 := hDb.c4
    have c5 := hDb.c5
    have c6 := hDb.c6
    have HI := Go.Lib.hid (bigInt_any x0 x1 x2 x3 false 20 (sc : Int) wb HX.out.1 HX.out.2.1 HX.out.2.2.1 HX.out.2.2.2.1 hpz)
    have hgb := (hRb.block g rfl).2
    have HRb := Go.Lib.hid hRb
    have HFb := Go.Lib.hid hFb
    clear hRb hFb hpz
    go_wp2_with (fail)
    refine HI.out.mono ?_
    rintro e w4 ⟨ng, A, n, c, L', rfl, hNt, hv, hl, hn2, ht, hF4⟩
    have hs4 := hF4.size
    clear c0 c1 c2 c3 c4 c5 c6 HI ht
    go_upto_region 15 with (fail)
    have hX5 := Big.new' w4 61 ng (.slice A n c)
    have hF5 : Fresh w4 (w4.alloc (.cells #[.bool ng, .slice A n c] 61)) := (Kept.refl w4 _).alloc _
    obtain ⟨xb, hxb⟩ : ∃ xb, w4.heap.size = xb := ⟨_, rfl⟩
    rw [hxb] at hX5 hs4 ⊢
    have hs5 := hX5.lt
    generalize w4.alloc (.cells #[.bool ng, .slice A n c] 61) = w5 at *
    have hN5 := hNt.fresh hF5
    have hF6 : Fresh w5 (w5.alloc (.cells #[.bool false, .slice none 0 0] 61)) := (Kept.refl w5 _).alloc _
    have hA := abs_any w5.heap.size xb wb.heap.size false ng (.slice A n c) L' (w5.alloc (.cells #[.bool false, .slice none 0 0] 61)) (Big.new w5 61) (hX5.kept hF6 (fun h => h)) (by omega) (by omega) (hN5.fresh hF6) (by have := hF6.size; omega)
    have HA := Go.Lib.hid hA
    have hF5w : Fresh wb (w5.alloc (.cells #[.bool false, .slice none 0 0] 61)) := (hF4.fresh hF5).fresh hF6
    have HF5 := Go.Lib.hid hF5w
    have HV := Go.Lib.hid (And.intro hv (And.intro hl hn2))
    obtain ⟨zb, hzb⟩ : ∃ zb, w5.heap.size = zb := ⟨_, rfl⟩
    rw [hzb] at HA hs5
    clear hA hF5w hv hl hNt hN5 hF4 hF5 hF6 hX5 hxb
    go_wp2_with (fail)
    refine HA.out.mono ?_
    rintro e w7 ⟨rfl, v', hN7, hZ7, hK7⟩
    have HBY := Go.Lib.hid (intBytes_any zb false v' L' wb.heap.size w7 hZ7 hN7 (by have h1 := HV.out.2.1; have h2 := HV.out.2.2; omega))
    have HF7 := Go.Lib.hid (HF5.out.trans hK7 (S := fun k => False) (fun k hk e => by omega))
    clear HA hN7 hZ7 hK7
    go_wp2_with (fail)
    refine HBY.out.mono ?_
    rintro e w8 ⟨u, B, rfl, hBe, hF8, hub0⟩
    have h16 : B.length ≤ 16 := hBe.length_le (by rw [HV.out.1, HX.out.2.2.2.2.1]; exact HB.out)
    obtain ⟨A2, c2, hub, hlc, _, hu0, hus⟩ := hBe.bts
    subst hub
    have hub1 : ∀ ad, A2 = some ad → g < ad.block := fun ad h => by have h1 := hub0 ad _ _ (by rw [h]); have h2 := HF7.out.size; omega
    have HBe := Go.Lib.hid (And.intro hBe.val (And.intro hBe.lt (And.intro hu0 hus)))
    obtain ⟨n2, hn⟩ : ∃ n, B.length = n := ⟨_, rfl⟩
    have HN := Go.Lib.hid hn
    rw [hn] at h16 hlc ⊢
    have i16 : (n2 : Int) ≤ 16 := by omega
    have hFw8 := HF7.out.fresh hF8
    have HR8 := Go.Lib.hid (HRb.out.fresh hFw8)
    have HF8 := Go.Lib.hid (HFb.out.fresh hFw8)
    have HUB := Go.Lib.hid hub1
    clear hBe hu0 hus hn HBY hF8 hFw8 hn2 hub0 hub1
    go_wp2_with (fail)
    go_loopw [52] (fun s52 wr => ∃ i : Nat, i ≤ n2 ∧ s52 = .int .i64 (i : Int) ∧ Row g wr (.slice (some ⟨g, 0, none⟩) 17 17) (mid 0 B 16 n2 i) ∧ Kept w8 wr (fun k => k = g)) (fun s52 _ => n2 - (intOf s52).toNat)
    case atStart => exact ⟨0, Nat.zero_le _, rfl, by have h := HR8.out; unfold mid; rw [Nat.sub_zero, List.take_zero, List.reverse_nil, List.nil_append, List.replicate_append_replicate, show n2 + (16 - n2) = 16 by omega]; exact h, Kept.refl _ _⟩
    case round =>
      obtain ⟨i, hi2, rfl, hrow, hK⟩ := hrel
      have HI2 := Go.Lib.hid (And.intro hrow hK)
      clear hrow hK
      by_cases hin : i < n2
      · cases A2 with
        | none =>
          have h0 := HBe.out.2.2.1 rfl
          have h1 := HN.out
          rw [h0.1] at h1
          simp at h1
          omega
        | some ad =>
          obtain ⟨gB, o, rfl, hgl2, hcl⟩ := HBe.out.2.2.2 _ rfl
          have hiB : i < B.length := by rw [HN.out]; exact hin
          have hgne : g ≠ gB := Nat.ne_of_lt (HUB.out _ rfl)
          have cB := HI2.out.2.held (hcl i hiB) (fun e => hgne e.symm)
          obtain ⟨b, hb⟩ : ∃ b, B[i] = b := ⟨_, rfl⟩
          have hbl : b < 256 := by rw [← hb]; exact HBe.out.2.1 _ (List.getElem_mem hiB)
          have htk : B.take (i + 1) = B.take i ++ [b] := by rw [← hb]; exact List.take_succ_eq_append_getElem hiB
          rw [hb] at cB
          obtain ⟨r, hr⟩ : ∃ r, n2 - i = r + 1 := ⟨n2 - i - 1, by omega⟩
          have hml : r + 1 < (mid 0 B 16 n2 i).length := by unfold mid; simp; omega
          have cO := HI2.out.1.cellAt (r + 1) hml
          have fO := HI2.out.1.frozenAt (r + 1)
          obtain ⟨zz, hzz⟩ : ∃ zz, (mid 0 B 16 n2 i)[r + 1] = zz := ⟨_, rfl⟩
          rw [hzz] at cO
          have e1 : (n2 : Int) - (i : Int) = (r : Int) + 1 := by omega
          have HST := Go.Lib.hid (And.intro (HI2.out.1.stored (r + 1) b) (And.intro (mid_step 0 B 16 n2 i r b hr htk) hr))
          have b1 : (0 : Int) ≤ (b : Int) := by omega
          have b2 : (b : Int) ≤ 255 := by omega
          have j1 : (i : Int) < (n2 : Int) := by omega
          have j2 : (0 : Int) ≤ (i : Int) := by omega
          have j3 : (r : Int) + 1 < 17 := by omega
          clear hcl htk hb hml hzz hr
          go_wp2_with (fail)
          go_roundw
          case rel => exact ⟨i + 1, hin, rfl, by rw [← HST.out.2.1]; exact HST.out.1, HI2.out.2.setCell (p := ⟨g, r + 1, none⟩) (.inl rfl) _⟩
          case measure => simp [intOf]; omega
      · have hie : i = n2 := by omega
        subst hie
        have hfin : mid 0 B 16 i i = 0 :: leB (dv ds) 16 := by
          have h := le_bytes B 16 (dv ds) (by rw [HBe.out.1, HV.out.1, HX.out.2.2.2.2.1]) HBe.out.2.1 (by rw [HN.out]; exact h16)
          rw [HN.out] at h
          unfold mid
          rw [Nat.sub_self, List.replicate_zero, List.nil_append, ← HN.out, List.take_length, HN.out, h]
        have hF9 : Fresh w wr := HF8.out.trans HI2.out.2 (fun k hk e => by omega)
        have hrow := HI2.out.1
        rw [hfin] at hrow
        have HZZ := Go.Lib.hid (And.intro (hrow.lower hws) hF9)
        clear hfin hF9 hrow
        go_wp2_with (fail)
        go_ret2
        exact ⟨g, rfl, HZZ.out.1, HZZ.out.2⟩
  | false =>
    rw [show (!false) = true from rfl]
    go_upto_region 14 with (fail)
    have hRb : Row g _ (.slice (some ⟨g, 0, none⟩) 17 17) (1 :: List.replicate 16 0) := HR.out.stored 0 1
    have hKb : Kept w3 (w3.setCell ⟨g, 0, none⟩ (.int .u8 1)) (fun k => k = g) := (Kept.refl w3 (fun k => k = g)).setCell (p := ⟨g, 0, none⟩) (.inl rfl) _
    have hDb := HD3.out.1.kept hKb (fun e => by omega)
    have hFb : Fresh w (w3.setCell ⟨g, 0, none⟩ (.int .u8 1)) := HD3.out.2.trans hKb (fun k hk e => by omega)
    have hpz : (true : Bool) = false → dn x0 x1 x2 x3 ≠ 0 := fun h => by cases h
    have hgs := hKb.size
    obtain ⟨wb, hwb⟩ : ∃ wb, w3.setCell ⟨g, 0, none⟩ (.int .u8 1) = wb := ⟨_, rfl⟩
    rw [show (((1 : Nat) : Int)) = 1 from rfl] at hRb
    rw [hwb] at hRb hDb hFb hgs ⊢
    clear hKb
    have c0 := hDb.c0
    have c1 := hDb.c1
    have c2 := hDb.c2
    have c3 := hDb.c3
    have c4 := hDb.c4
    have c5 := hDb.c5
    have c6 := hDb.c6
    have HI := Go.Lib.hid (bigInt_any x0 x1 x2 x3 true 20 (sc : Int) wb HX.out.1 HX.out.2.1 HX.out.2.2.1 HX.out.2.2.2.1 hpz)
    have hgb := (hRb.block g rfl).2
    have HRb := Go.Lib.hid hRb
    have HFb := Go.Lib.hid hFb
    clear hRb hFb hpz
    go_wp2_with (fail)
    refine HI.out.mono ?_
    rintro e w4 ⟨ng, A, n, c, L', rfl, hNt, hv, hl, hn2, ht, hF4⟩
    have hs4 := hF4.size
    clear c0 c1 c2 c3 c4 c5 c6 HI ht
    go_upto_region 15 with (fail)
    have hX5 := Big.new' w4 61 ng (.slice A n c)
    have hF5 : Fresh w4 (w4.alloc (.cells #[.bool ng, .slice A n c] 61)) := (Kept.refl w4 _).alloc _
    obtain ⟨xb, hxb⟩ : ∃ xb, w4.heap.size = xb := ⟨_, rfl⟩
    rw [hxb] at hX5 hs4 ⊢
    have hs5 := hX5.lt
    generalize w4.alloc (.cells #[.bool ng, .slice A n c] 61) = w5 at *
    have hN5 := hNt.fresh hF5
    have hF6 : Fresh w5 (w5.alloc (.cells #[.bool false, .slice none 0 0] 61)) := (Kept.refl w5 _).alloc _
    have hA := abs_any w5.heap.size xb wb.heap.size false ng (.slice A n c) L' (w5.alloc (.cells #[.bool false, .slice none 0 0] 61)) (Big.new w5 61) (hX5.kept hF6 (fun h => h)) (by omega) (by omega) (hN5.fresh hF6) (by have := hF6.size; omega)
    have HA := Go.Lib.hid hA
    have hF5w : Fresh wb (w5.alloc (.cells #[.bool false, .slice none 0 0] 61)) := (hF4.fresh hF5).fresh hF6
    have HF5 := Go.Lib.hid hF5w
    have HV := Go.Lib.hid (And.intro hv (And.intro hl hn2))
    obtain ⟨zb, hzb⟩ : ∃ zb, w5.heap.size = zb := ⟨_, rfl⟩
    rw [hzb] at HA hs5
    clear hA hF5w hv hl hNt hN5 hF4 hF5 hF6 hX5 hxb
    go_wp2_with (fail)
    refine HA.out.mono ?_
    rintro e w7 ⟨rfl, v', hN7, hZ7, hK7⟩
    have HBY := Go.Lib.hid (intBytes_any zb false v' L' wb.heap.size w7 hZ7 hN7 (by have h1 := HV.out.2.1; have h2 := HV.out.2.2; omega))
    have HF7 := Go.Lib.hid (HF5.out.trans hK7 (S := fun k => False) (fun k hk e => by omega))
    clear HA hN7 hZ7 hK7
    go_wp2_with (fail)
    refine HBY.out.mono ?_
    rintro e w8 ⟨u, B, rfl, hBe, hF8, hub0⟩
    have h16 : B.length ≤ 16 := hBe.length_le (by rw [HV.out.1, HX.out.2.2.2.2.1]; exact HB.out)
    obtain ⟨A2, c2, hub, hlc, _, hu0, hus⟩ := hBe.bts
    subst hub
    have hub1 : ∀ ad, A2 = some ad → g < ad.block := fun ad h => by have h1 := hub0 ad _ _ (by rw [h]); have h2 := HF7.out.size; omega
    have HBe := Go.Lib.hid (And.intro hBe.val (And.intro hBe.lt (And.intro hu0 hus)))
    obtain ⟨n2, hn⟩ : ∃ n, B.length = n := ⟨_, rfl⟩
    have HN := Go.Lib.hid hn
    rw [hn] at h16 hlc ⊢
    have i16 : (n2 : Int) ≤ 16 := by omega
    have hFw8 := HF7.out.fresh hF8
    have HR8 := Go.Lib.hid (HRb.out.fresh hFw8)
    have HF8 := Go.Lib.hid (HFb.out.fresh hFw8)
    have HUB := Go.Lib.hid hub1
    clear hBe hu0 hus hn HBY hF8 hFw8 hn2 hub0 hub1
    go_wp2_with (fail)
    go_loopw [52] (fun s52 wr => ∃ i : Nat, i ≤ n2 ∧ s52 = .int .i64 (i : Int) ∧ Row g wr (.slice (some ⟨g, 0, none⟩) 17 17) (mid 1 B 16 n2 i) ∧ Kept w8 wr (fun k => k = g)) (fun s52 _ => n2 - (intOf s52).toNat)
    case atStart => exact ⟨0, Nat.zero_le _, rfl, by have h := HR8.out; unfold mid; rw [Nat.sub_zero, List.take_zero, List.reverse_nil, List.nil_append, List.replicate_append_replicate, show n2 + (16 - n2) = 16 by omega]; exact h, Kept.refl _ _⟩
    case round =>
      obtain ⟨i, hi2, rfl, hrow, hK⟩ := hrel
      have HI2 := Go.Lib.hid (And.intro hrow hK)
      clear hrow hK
      by_cases hin : i < n2
      · cases A2 with
        | none =>
          have h0 := HBe.out.2.2.1 rfl
          have h1 := HN.out
          rw [h0.1] at h1
          simp at h1
          omega
        | some ad =>
          obtain ⟨gB, o, rfl, hgl2, hcl⟩ := HBe.out.2.2.2 _ rfl
          have hiB : i < B.length := by rw [HN.out]; exact hin
          have hgne : g ≠ gB := Nat.ne_of_lt (HUB.out _ rfl)
          have cB := HI2.out.2.held (hcl i hiB) (fun e => hgne e.symm)
          obtain ⟨b, hb⟩ : ∃ b, B[i] = b := ⟨_, rfl⟩
          have hbl : b < 256 := by rw [← hb]; exact HBe.out.2.1 _ (List.getElem_mem hiB)
          have htk : B.take (i + 1) = B.take i ++ [b] := by rw [← hb]; exact List.take_succ_eq_append_getElem hiB
          rw [hb] at cB
          obtain ⟨r, hr⟩ : ∃ r, n2 - i = r + 1 := ⟨n2 - i - 1, by omega⟩
          have hml : r + 1 < (mid 1 B 16 n2 i).length := by unfold mid; simp; omega
          have cO := HI2.out.1.cellAt (r + 1) hml
          have fO := HI2.out.1.frozenAt (r + 1)
          obtain ⟨zz, hzz⟩ : ∃ zz, (mid 1 B 16 n2 i)[r + 1] = zz := ⟨_, rfl⟩
          rw [hzz] at cO
          have e1 : (n2 : Int) - (i : Int) = (r : Int) + 1 := by omega
          have HST := Go.Lib.hid (And.intro (HI2.out.1.stored (r + 1) b) (And.intro (mid_step 1 B 16 n2 i r b hr htk) hr))
          have b1 : (0 : Int) ≤ (b : Int) := by omega
          have b2 : (b : Int) ≤ 255 := by omega
          have j1 : (i : Int) < (n2 : Int) := by omega
          have j2 : (0 : Int) ≤ (i : Int) := by omega
          have j3 : (r : Int) + 1 < 17 := by omega
          clear hcl htk hb hml hzz hr
          go_wp2_with (fail)
          go_roundw
          case rel => exact ⟨i + 1, hin, rfl, by rw [← HST.out.2.1]; exact HST.out.1, HI2.out.2.setCell (p := ⟨g, r + 1, none⟩) (.inl rfl) _⟩
          case measure => simp [intOf]; omega
      · have hie : i = n2 := by omega
        subst hie
        have hfin : mid 1 B 16 i i = 1 :: leB (dv ds) 16 := by
          have h := le_bytes B 16 (dv ds) (by rw [HBe.out.1, HV.out.1, HX.out.2.2.2.2.1]) HBe.out.2.1 (by rw [HN.out]; exact h16)
          rw [HN.out] at h
          unfold mid
          rw [Nat.sub_self, List.replicate_zero, List.nil_append, ← HN.out, List.take_length, HN.out, h]
        have hF9 : Fresh w wr := HF8.out.trans HI2.out.2 (fun k hk e => by omega)
        have hrow := HI2.out.1
        rw [hfin] at hrow
        have HZZ := Go.Lib.hid (And.intro (hrow.lower hws) hF9)
        clear hfin hF9 hrow
        go_wp2_with (fail)
        go_ret2
        exact ⟨g, rfl, HZZ.out.1, HZZ.out.2⟩

/-- How many bytes a number of so many digits has. -/
def mag (p : Nat) : Nat := if p ≤ 9 then 4 else if p ≤ 19 then 8 else if p ≤ 28 then 12 else 16

theorem zzEnc_any (s t : ByteArray) (sc : Nat) (eb : Addr) (prec : Nat) (neg : Bool) (ds : List Nat) (hp : prec ≤ 38) (hc : Clean s t sc) (hs : s.size ≤ 100) (hn : Numb t neg ds) (hz : neg = true → dv ds ≠ 0) (hb : dv ds < 10 ^ prec) (w : World) (he : w.cell? ⟨2, 0, none⟩ = some (eofV eb)) :
    Calls Tryz.prog 22 #[.string s, .int .u8 (prec : Int), .int .u8 (sc : Int)] w fun e w' => ∃ g, e = .returned (.tuple #[.slice (some ⟨g, 0, none⟩) (mag prec + 1) (mag prec + 1), .nilIface]) ∧ Row w.heap.size w' (.slice (some ⟨g, 0, none⟩) (mag prec + 1) (mag prec + 1)) ((if neg then 0 else 1) :: leB (dv ds) (mag prec)) ∧ Fresh w w' := by
  by_cases h9 : prec ≤ 9
  · rw [show mag prec = 4 from if_pos h9]
    exact zzEnc4_any s t sc eb prec neg ds h9 hc hs hn hz (Nat.lt_of_lt_of_le hb (Nat.le_trans (Nat.pow_le_pow_right (by decide) h9) (by decide))) w he
  by_cases h19 : prec ≤ 19
  · rw [show mag prec = 8 from (if_neg h9).trans (if_pos h19)]
    exact zzEnc8_any s t sc eb prec neg ds (by omega) h19 hc hs hn hz (Nat.lt_of_lt_of_le hb (Nat.le_trans (Nat.pow_le_pow_right (by decide) h19) (by decide))) w he
  by_cases h28 : prec ≤ 28
  · rw [show mag prec = 12 from (if_neg h9).trans ((if_neg h19).trans (if_pos h28))]
    exact zzEnc12_any s t sc eb prec neg ds (by omega) h28 hc hs hn hz (Nat.lt_of_lt_of_le hb (Nat.le_trans (Nat.pow_le_pow_right (by decide) h28) (by decide))) w he
  · rw [show mag prec = 16 from (if_neg h9).trans ((if_neg h19).trans (if_neg h28))]
    exact zzEnc16_any s t sc eb prec neg ds (by omega) hp hc hs hn hz (Nat.lt_of_lt_of_le hb (Nat.le_trans (Nat.pow_le_pow_right (by decide) hp) (by decide))) w he
end Go.Proofs.YthmopakaikhjlaaGreatDoor
