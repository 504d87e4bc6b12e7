/- spec.raw, at dates with times, and at an offset; spec.Raw. (Printed by genraw2.py.) -/
import Derived.Test.YtahcaoenddapoaaDoorRaw1
namespace Go.Proofs.YtahcaoenddapoaaDoor
open Go.RowKit

set_option maxRecDepth 100000 in
set_option maxHeartbeats 400000 in
theorem raw42 (d N o sz : Int) (s t dN : Nat) (hs : s ≤ 7) (hd : d = (dN : Int)) (hd1 : d ≤ 3652058) (hN0 : 0 ≤ N) (hN1 : N < 86400000000000) (ht : N / uni s = (t : Int)) (w : World) : Calls Tryd.prog 26 #[colv 42 sz (s : Int), cellv d N o] w fun e w' => ∃ v, e = .returned v ∧ Bts w' v (leB t (tsz s) ++ leB dN 3) ∧ Fresh w w' := by
  have hd0 : 0 ≤ d := by omega
  have HD := Go.Lib.hid hd
  clear hd
  obtain ⟨u, hu⟩ : ∃ u, uni s = u := ⟨_, rfl⟩
  have hu0 : 0 < u := by rw [← hu]; exact uni_pos s
  have hub : u ≤ 1000000000 := by rw [← hu]; exact uni_bound s
  rw [hu] at ht
  have hune : u ≠ 0 := by omega
  have hq1 : N / u = (t : Int) := ht
  have hq2 : N.tdiv u = (t : Int) := by rw [Int.tdiv_eq_ediv_of_nonneg hN0]; exact ht
  have ht0 : (0 : Int) ≤ (t : Int) := Int.natCast_nonneg _
  have ht1 : (t : Int) ≤ 86400000000000 := by rw [← ht]; exact Int.le_trans (Int.ediv_le_self _ hN0) (by omega)
  have ht8 : tsz s ≤ 8 := by unfold tsz; split <;> (try split) <;> decide
  obtain ⟨T, hT⟩ : ∃ T : Int, T = (t : Int) := ⟨_, rfl⟩
  rw [← hT] at hq1 hq2 ht0 ht1
  have hw1 : IntKind.i64.wrap T = T := IntWalk.i64_in _ (by omega)
  have hw2 : IntKind.u64.wrap T = T := by rw [IntKind.wrap_u64]; omega
  have HU := Go.Lib.hid hu
  have HT := Go.Lib.hid hT
  clear ht hu hT
  obtain ⟨hR, hF, hsz⟩ := raw_start w 42 sz (s : Int) d N o
  unfold rawW at hR hF hsz
  have HR := Go.Lib.hid hR
  have HF := Go.Lib.hid (hF.mono (S := fun k => w.heap.size + 1 + 1 ≤ k) (fun _ _ h => h.elim))
  have HSZ := Go.Lib.hid hsz
  clear hR hF hsz
  go_enter Tryd.func26, Tryd.ntmps26
  go_upto_region 51 with (fail)
  generalize ((((w.alloc (.cells #[.int .i64 0, .int .i64 42, .int .i64 sz, .int .i64 0, .int .i64 (s : Int), .string ⟨#[]⟩] 27)).alloc (.cells #[.bool false, .int .i64 0, .float .f64 0, .string ⟨#[]⟩, .slice none 0 0, .string ⟨#[]⟩, .int .i64 d, .int .i64 N, .int .i64 o] 25)).alloc (.cells #[] 5)).alloc (.cells #[.slice (some ⟨w.heap.size + 1 + 1, 0, none⟩) 0 0] 66)) = W at *
  go_region_held3 (fun w' => w'.cell? ⟨w.heap.size, 4, none⟩ = some (.int .i64 (s : Int)) ∧ w'.cell? ⟨w.heap.size + 1, 7, none⟩ = some (.int .i64 N))
    (first | exact ⟨HR.out.sc, HR.out.cn⟩ | assumption | exact ⟨hR1.sc, hR1.cn⟩)
    (first
      | (go_at_call 17; refine (unit_at s u HU.out hs _).mono ?_; rintro e w' ⟨rfl, rfl⟩)
      | (go_at_call 12; refine (clock_any s hs _).mono ?_; rintro e w' ⟨rfl, rfl⟩)
      | (go_at_call 43; refine (put_raw t (tsz s) HT.out rfl ht8 HR.out.drew (by decide) HSZ.out HF.out.drew).mono ?_; rintro e w' ⟨rfl, v1, hR1, hK1, hs1⟩))
  rename_i hA
  clear hA
  have c1 := hR1.cd
  clear hw1 hw2 hq1 hq2
  go_wp2_with (fail)
  refine (put_raw dN 3 HD.out rfl (by decide) hR1 (by rw [List.nil_append, leB_length]; omega) hs1 hK1).mono ?_
  rintro e w2 ⟨rfl, v2, hR2, hK2, hs2⟩
  have c9 := hR2.wr.cell
  have HR2 := Go.Lib.hid hR2
  have HK2 := Go.Lib.hid hK2
  clear hR1 hK1 hR2 hK2 c1
  go_wp2
  go_ret
  exact ⟨v2, rfl, HR2.out.wr.row.bts, HK2.out.mono (fun k hk e => by omega)⟩

/-- A day and nanoseconds, on the way to being of a day. -/
def Nrm (TT dd nn : Int) : Prop := dd * 86400000000000 + nn = TT ∧ -86400000000000 ≤ nn ∧ nn < 172800000000000

set_option maxRecDepth 100000 in
set_option maxHeartbeats 400000 in
theorem raw43 (d N o sz TT : Int) (s t dN oo : Nat) (hs : s ≤ 7) (hd0 : 1 ≤ d) (hd1 : d ≤ 3652057) (hN0 : 0 ≤ N) (hN1 : N < 86400000000000) (ho0 : -840 ≤ o) (ho1 : o ≤ 840) (hTT : d * 86400000000000 + N - o * 60000000000 = TT) (hdd : TT / 86400000000000 = (dN : Int)) (ht : TT % 86400000000000 / uni s = (t : Int)) (hoo : (oo : Int) = o % 18446744073709551616) (w : World) : Calls Tryd.prog 26 #[colv 43 sz (s : Int), cellv d N o] w fun e w' => ∃ v, e = .returned v ∧ Bts w' v (leB t (tsz s) ++ leB dN 3 ++ leB oo 2) ∧ Fresh w w' := by
  have b1 : IntKind.i64.wrap (o * 60000000000) = o * 60000000000 := IntWalk.i64_in _ (by omega)
  obtain ⟨M, hM⟩ : ∃ M : Int, M = N - o * 60000000000 := ⟨_, rfl⟩
  have b2 : IntKind.i64.wrap (N - o * 60000000000) = M := by rw [hM]; exact IntWalk.i64_in _ (by omega)
  have hM0 : -50400000000000 ≤ M := by omega
  have hM1 : M < 136800000000000 := by omega
  have hT0 : d * 86400000000000 + M = TT := by omega
  have hTT0 : 36000000000000 ≤ TT := by omega
  have hTT1 : TT ≤ 315537897600000000000 := by omega
  have HT0 := Go.Lib.hid hT0
  have HDD := Go.Lib.hid hdd
  have HTT := Go.Lib.hid ht
  have HOO := Go.Lib.hid hoo
  have HB0 := Go.Lib.hid hTT0
  have HB1 := Go.Lib.hid hTT1
  clear hTT hM hT0 hdd ht hoo hTT0 hTT1
  obtain ⟨hR, hF, hsz⟩ := raw_start w 43 sz (s : Int) d N o
  unfold rawW at hR hF hsz
  have HR := Go.Lib.hid hR
  have HF := Go.Lib.hid (hF.mono (S := fun k => w.heap.size + 1 + 1 ≤ k) (fun _ _ h => h.elim))
  have HSZ := Go.Lib.hid hsz
  clear hR hF hsz
  go_enter Tryd.func26, Tryd.ntmps26
  go_upto_region 54 with (fail)
  generalize ((((w.alloc (.cells #[.int .i64 0, .int .i64 43, .int .i64 sz, .int .i64 0, .int .i64 (s : Int), .string ⟨#[]⟩] 27)).alloc (.cells #[.bool false, .int .i64 0, .float .f64 0, .string ⟨#[]⟩, .slice none 0 0, .string ⟨#[]⟩, .int .i64 d, .int .i64 N, .int .i64 o] 25)).alloc (.cells #[] 5)).alloc (.cells #[.slice (some ⟨w.heap.size + 1 + 1, 0, none⟩) 0 0] 66)) = W at *
  have c1 := HR.out.cd
  have c2 := HR.out.cn
  have c3 := HR.out.co
  go_quiet (fail)
  have HRN := Go.Lib.hid (HR.out.drewN nq)
  have HFN := Go.Lib.hid (HF.out.drewN nq)
  have HSZN : (w.heap.size + 1 + 1 ≤ (W.drewN nq).heap.size) := HSZ.out
  clear b1 b2 c1 c2 c3
  generalize W.drewN nq = X at *
  go_wp2_with (fail)
  go_loop [9, 10] (fun a b => ∃ dd nn : Int, a = .int .i64 dd ∧ b = .int .i64 nn ∧ Nrm TT dd nn) (fun _ b => (- intOf b).toNat)
  case atStart => exact ⟨d, M, rfl, rfl, HT0.out, by omega, by omega⟩
  case round =>
    obtain ⟨dd, nn, rfl, rfl, hn1, hn2, hn3⟩ := hrel
    have hb0 := HB0.out
    have hb1 := HB1.out
    have hdd0 : -5 ≤ dd := by omega
    have hdd1 : dd ≤ 4000000 := by omega
    have HN1 := Go.Lib.hid hn1
    clear hn1 hb0 hb1
    by_cases hneg : nn < 0
    · go_wp2
      go_round
      case rel => exact ⟨dd - 1, nn + 86400000000000, by go_num, by go_num, by have := HN1.out; omega, by omega, by omega⟩
      case measure => simp [intOf]; omega
    · have hn0 : 0 ≤ nn := by omega
      go_wp2_with (fail)
      go_loop [9, 10] (fun a b => ∃ dd nn : Int, a = .int .i64 dd ∧ b = .int .i64 nn ∧ Nrm TT dd nn ∧ 0 ≤ nn) (fun _ b => (intOf b).toNat)
      case atStart => exact ⟨dd, nn, rfl, rfl, ⟨HN1.out, hn2, hn3⟩, hn0⟩
      case round =>
        clear hneg hn0 hn2 hn3 hdd0 hdd1 HN1
        obtain ⟨dd, nn, rfl, rfl, ⟨hn1, hn2, hn3⟩, h0⟩ := hrel
        have hb0 := HB0.out
        have hb1 := HB1.out
        have hdd0 : -5 ≤ dd := by omega
        have hdd1 : dd ≤ 4000000 := by omega
        by_cases hbig : 86400000000000 ≤ nn
        · have HN1 := Go.Lib.hid hn1
          clear hn1 hb0 hb1
          go_wp2
          go_round
          case rel => exact ⟨dd + 1, nn - 86400000000000, by go_num, by go_num, ⟨by have := HN1.out; omega, by omega, by omega⟩, by omega⟩
          case measure => simp [intOf]; omega
        · have hlt : nn < 86400000000000 := by omega
          have e1 : dd = (dN : Int) := by rw [← HDD.out]; omega
          have e2 : TT % 86400000000000 = nn := by omega
          have ht := HTT.out
          rw [e2] at ht
          have hdd2 : 0 ≤ dd := by omega
          have E1 := Go.Lib.hid e1
          clear hn1 hb0 hb1 e1 e2 hbig
          obtain ⟨u, hu⟩ : ∃ u, uni s = u := ⟨_, rfl⟩
          have hu0 : 0 < u := by rw [← hu]; exact uni_pos s
          have hub : u ≤ 1000000000 := by rw [← hu]; exact uni_bound s
          rw [hu] at ht
          have hune : u ≠ 0 := by omega
          have hq1 : nn / u = (t : Int) := ht
          have hq2 : nn.tdiv u = (t : Int) := by rw [Int.tdiv_eq_ediv_of_nonneg h0]; exact ht
          have ht0 : (0 : Int) ≤ (t : Int) := Int.natCast_nonneg _
          have ht1 : (t : Int) ≤ 86400000000000 := by rw [← ht]; exact Int.le_trans (Int.ediv_le_self _ h0) (by omega)
          have ht8 : tsz s ≤ 8 := by unfold tsz; split <;> (try split) <;> decide
          obtain ⟨T, hT⟩ : ∃ T : Int, T = (t : Int) := ⟨_, rfl⟩
          rw [← hT] at hq1 hq2 ht0 ht1
          have hw1 : IntKind.i64.wrap T = T := IntWalk.i64_in _ (by omega)
          have hw2 : IntKind.u64.wrap T = T := by rw [IntKind.wrap_u64]; omega
          have HU := Go.Lib.hid hu
          have HT := Go.Lib.hid hT
          clear ht hu hT
          go_wp2_with (fail)
          go_region_held3 (fun w' => w'.cell? ⟨w.heap.size, 4, none⟩ = some (.int .i64 (s : Int)))
            (first | exact HRN.out.sc | assumption | exact hR1.sc)
            (first
              | (go_at_call 17; refine (unit_at s u HU.out hs _).mono ?_; rintro e w' ⟨rfl, rfl⟩)
              | (go_at_call 12; refine (clock_any s hs _).mono ?_; rintro e w' ⟨rfl, rfl⟩)
              | (go_at_call 43; refine (put_raw t (tsz s) HT.out rfl ht8 HRN.out.drew (by decide) HSZN HFN.out.drew).mono ?_; rintro e w' ⟨rfl, v1, hR1, hK1, hs1⟩))
          rename_i hA
          clear hA
          clear hw1 hw2 hq1 hq2
          go_wp2_with (fail)
          refine (put_raw dN 3 E1.out rfl (by decide) hR1 (by rw [List.nil_append, leB_length]; omega) hs1 hK1).mono ?_
          rintro e w2 ⟨rfl, v2, hR2, hK2, hs2⟩
          have c5 := hR2.co
          have hl2 : ([] ++ leB t (tsz s) ++ leB dN 3).length ≤ 1000 := by rw [List.nil_append, List.length_append, leB_length, leB_length]; omega
          have HL2 := Go.Lib.hid hl2
          clear hR1 hK1 hl2
          go_wp2_with (fail)
          refine (put_raw oo 2 HOO.out.symm rfl (by decide) hR2 HL2.out hs2 hK2).mono ?_
          rintro e w3 ⟨rfl, v3, hR3, hK3, hs3⟩
          have c9 := hR3.wr.cell
          have HR3 := Go.Lib.hid hR3
          have HK3 := Go.Lib.hid hK3
          clear hR2 hK2 hR3 hK3 c5
          go_wp2
          go_ret
          exact ⟨v3, rfl, HR3.out.wr.row.bts, HK3.out.mono (fun k hk e => by omega)⟩
end Go.Proofs.YtahcaoenddapoaaDoor
