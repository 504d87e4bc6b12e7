/- laws.FnPrelogin: whatever the options: true. (Region 14 printed by gen8.py.) -/
import Derived.Test.YtahcaoenddapoaaGd
import Derived.Test.YtahcaoenddapoaaSpl
import Derived.Test.YtahcaoenddapoaaPrs
import Derived.Test.YtahcaoenddapoaaBase
import Derived.Test.YtahcaoenddapoaaStp2
namespace Go.Proofs.Ytahcaoenddapoaa
open Go.RowKit

theorem pre_lt (D : Nat → List Nat) (ks : List Nat) (hk : ∀ k ∈ ks, k < 256) (hD : ∀ k ∈ ks, ∀ b ∈ D k, b < 256) : ∀ b ∈ pre D ks, b < 256 := by
  have h1 : ∀ (ks : List Nat) (o : Nat), (∀ k ∈ ks, k < 256) → ∀ b ∈ tabs D o ks, b < 256 := by
    intro ks
    induction ks with
    | nil => intro o _ b hb; cases hb
    | cons k ks ih =>
      intro o h b hb
      simp only [tabs, List.mem_append, List.mem_cons, List.not_mem_nil, or_false] at hb
      rcases hb with (rfl | rfl | rfl | rfl | rfl) | hb
      · exact h _ (by simp)
      · omega
      · omega
      · omega
      · omega
      · exact ih _ (fun k hk => h k (by simp [hk])) b hb
  intro b hb
  unfold pre at hb
  rcases List.mem_append.1 hb with hb | hb
  · rcases List.mem_append.1 hb with hb | hb
    · exact h1 ks _ hk b hb
    · simp at hb; omega
  · obtain ⟨k, hk', hb⟩ := List.mem_flatMap.1 hb
    exact hD k hk' b hb

set_option maxRecDepth 100000 in
set_option maxHeartbeats 4000000 in
theorem lawPrelogin_any (A : Option Addr) (n c : Nat) (X : List (Int × Value × List Nat)) (hn : X.length = n) (w : World) (hX : n ≠ 0 → ∃ b o, A = some ⟨b, o, none⟩ ∧ Inp w b o X) (hB : ∀ x ∈ X, ∀ b ∈ x.2.2, b < 256) :
    Calls Try.prog 8 #[.slice A n c] w fun e w' => e = .returned (.bool true) ∧ Fresh w w' := by
  have HX := Go.Lib.hid hX
  have HN := Go.Lib.hid hn
  have HB := Go.Lib.hid hB
  clear hX hn hB
  go_enter Try.func8, Try.ntmps8
  go_wp2_with (fail)
  refine (fits1_any A n c X HN.out w HX.out).mono ?_
  rintro e w1 ⟨⟨b1, rfl⟩, hF1⟩
  have HF1 := Go.Lib.hid hF1
  clear hF1
  cases b1 with
  | false =>
    go_wp2
    go_ret
    exact ⟨rfl, HF1.out⟩
  | true =>
    go_wp2_with (fail)
    refine (options_any A n c X HN.out w1 (fun h => by obtain ⟨b, o, h1, h2⟩ := HX.out h; exact ⟨b, o, h1, h2.fresh HF1.out⟩)).mono ?_
    rintro e w2 ⟨hq, hF2⟩
    have HF2 := Go.Lib.hid hF2
    clear hF2
    rcases hq with ⟨v, rfl⟩ | ⟨h0, h10, hfit, v, rfl, hro⟩
    · go_wp2_with (fail)
      refine (works_any _).mono ?_
      rintro e w3 ⟨rfl, hF3⟩
      have HF3 := Go.Lib.hid ((HF1.out.fresh HF2.out).fresh hF3)
      clear hF3
      go_wp2
      go_ret
      exact ⟨rfl, HF3.out⟩
    · have hn0 : n ≠ 0 := by have := HN.out; omega
      obtain ⟨b, o, rfl, hI⟩ := HX.out hn0
      have hfine := good_fine hfit h10
      have hop := opts_of_inp hfit hI
      have hkl : (toks X).length = n := by rw [toks_length, HN.out]
      obtain ⟨g, c2, rfl, hg1, hg2⟩ := hro.form (by simpa using h0)
      have hop2 : Opts w2 g 0 (toks X) (datOf X) := opts_of_row hfit hro (by simp) (fun i h => ((((hI i h).2.2.1.2 (by have := (hfit i h).l0; omega)).fresh HF1.out).fresh HF2.out))
      rw [List.length_map, HN.out] at hro
      have hpl256 : ∀ y ∈ pre (datOf X) (toks X), y < 256 := by
        refine pre_lt _ _ (fun k hk => by have := hfine.lt k hk; omega) (fun k hk y hy => ?_)
        obtain ⟨x, hx, rfl⟩ := List.mem_map.1 hk
        obtain ⟨i, h, rfl⟩ := List.getElem_of_mem hx
        rw [datOf_at hfit i h] at hy
        exact HB.out _ (List.getElem_mem h) y hy
      have HFN := Go.Lib.hid hfine
      have HOP := Go.Lib.hid ((hop.fresh HF1.out).fresh HF2.out)
      have HOP2 := Go.Lib.hid hop2
      have HKL := Go.Lib.hid hkl
      have HP256 := Go.Lib.hid hpl256
      have HFW := Go.Lib.hid (HF1.out.fresh HF2.out)
      have HFIT := Go.Lib.hid hfit
      have HI := Go.Lib.hid hI
      have n1 : 1 ≤ n := by omega
      have n10 : n ≤ 10 := by have := HN.out; omega
      have hsl : (X.map asOpt).length = n := by rw [List.length_map, HN.out]
      rw [hsl]
      clear hfine hop hop2 hkl hpl256 hro hfit hI HF1 HF2 hsl
      go_wp2_with (fail)
      refine (specPrelogin_any g 0 c2 (datOf X) (toks X) HFN.out n HKL.out w2 HOP2.out).mono ?_
      rintro e w3 ⟨v3, rfl, hb3, hF3⟩
      obtain ⟨A3, c3, rfl, hc3⟩ := hb3.slice
      obtain ⟨m, hm⟩ : ∃ m, (pre (datOf X) (toks X)).length = m := ⟨_, rfl⟩
      have HM := Go.Lib.hid hm
      rw [hm] at hb3 hc3 ⊢
      have HB3 := Go.Lib.hid hb3
      have HF3 := Go.Lib.hid (HFW.out.fresh hF3)
      have HOP3 := Go.Lib.hid (HOP.out.fresh hF3)
      clear hb3 hF3 hm
      go_wp2_with (fail)
      refine (format_any b o c (datOf X) (toks X) HFN.out n HKL.out w3 HOP3.out).mono ?_
      rintro e w4 ⟨v4, rfl, hb4, hF4⟩
      have HB4 := Go.Lib.hid hb4
      have HB34 := Go.Lib.hid (HB3.out.fresh hF4)
      have HF4 := Go.Lib.hid (HF3.out.fresh hF4)
      clear hb4 hF4
      go_wp2_with (fail)
      refine (parse_any (datOf X) (toks X) HFN.out (by rw [HKL.out]; exact n1) A3 m c3 w4 HB34.out).mono ?_
      rintro e w5 ⟨g5, c5, L, rfl, hro5, hfst5, hdat5, hF5⟩
      have HRO5 := Go.Lib.hid hro5
      have HFST := Go.Lib.hid hfst5
      have HDAT := Go.Lib.hid hdat5
      have q1 := str_of (HB4.out.fresh hF5) HP256.out
      have q2 := str_of (HB34.out.fresh hF5) HP256.out
      have HF5 := Go.Lib.hid (HF4.out.fresh hF5)
      rw [HKL.out]
      rw [HKL.out] at HRO5
      clear hro5 hfst5 hdat5 hF5
      go_wp2_with (fail)
      go_loopw [57] (fun i wr => ∃ j : Nat, j ≤ n ∧ i = .int .i64 (j : Int) ∧ Fresh w5 wr) (fun i _ => n - (intOf i).toNat)
      case atStart => exact ⟨0, Nat.zero_le _, rfl, Kept.refl _ _⟩
      case round =>
        obtain ⟨j, hj, rfl, hF⟩ := hrel
        have HFR := Go.Lib.hid hF
        clear hF
        clear q1 q2
        by_cases hjn : j < n
        · have hLl : L.length = n := by have h := congrArg List.length HFST.out; rw [List.length_map, HKL.out] at h; exact h
          have hjL : j < L.length := by rw [hLl]; exact hjn
          have hjk : j < (toks X).length := by rw [HKL.out]; exact hjn
          have c0 := (HRO5.out.fresh HFR.out).cell0 hLl j hjL
          have c1 := (HRO5.out.fresh HFR.out).cell1 hLl j hjL
          have hdl := (HDAT.out L[j] (List.getElem_mem hjL)).fresh HFR.out
          have hLk : L[j].1 = (toks X)[j] := by
            have h : (L.map Prod.fst)[j]'(by rw [List.length_map]; exact hjL) = (toks X)[j] := by simp only [HFST.out]
            simpa using h
          obtain ⟨s2', z, s3', s5'⟩ := ((((HI.out))) |> opts_of_inp HFIT.out |>.fresh (HF5.out.fresh HFR.out)) j hjk
          have hk255 := HFN.out.lt _ (List.getElem_mem hjk)
          have hd256 : ∀ y ∈ datOf X (toks X)[j], y < 256 := by
            have e : (toks X)[j] = (X[j]'(by rw [HN.out]; exact hjn)).1.toNat := by simp [toks]
            rw [e, datOf_at HFIT.out j (by rw [HN.out]; exact hjn)]
            exact HB.out _ (List.getElem_mem _)
          rw [hLk] at c0 hdl
          obtain ⟨zl, hzl⟩ : ∃ zl, L[j].2 = zl := ⟨_, rfl⟩
          rw [hzl] at c1 hdl
          have hsl1 := hdl.slice
          have hsl2 := s5'.slice
          generalize (toks X)[j] = k at *
          generalize datOf X k = dk at *
          obtain ⟨Al, cl, rfl, _⟩ := hsl1
          obtain ⟨Az, cz, rfl, _⟩ := hsl2
          obtain ⟨nz, hnz⟩ : ∃ nz, dk.length = nz := ⟨_, rfl⟩
          rw [hnz] at c1 s3' hdl s5'
          have HDK2 := Go.Lib.hid hd256
          have H1 := Go.Lib.hid s2'
          have H2 := Go.Lib.hid s3'
          have H3 := Go.Lib.hid hdl
          have H4 := Go.Lib.hid s5'
          clear hnz hLl hLk hzl hd256 s2' s3' s5' hdl
          go_upto_region 14 with (fail)
          obtain ⟨zl, hzl⟩ : ∃ zl, Value.slice Al nz cl = zl := ⟨_, rfl⟩
          obtain ⟨z, hz⟩ : ∃ z, Value.slice Az nz cz = z := ⟨_, rfl⟩
          have hFa : Fresh wr (wr.alloc (.cells #[.int .i64 (k : Int), .slice Al nz cl] 61)) := (Kept.refl wr (fun _ => False)).alloc _
          have s0 := cell_of_row (wr.alloc (.cells #[.int .i64 (k : Int), .slice Al nz cl] 61)) wr.heap.size 0 _ _ _ (heap_alloc_new wr _)
          have s1 := cell_of_row (wr.alloc (.cells #[.int .i64 (k : Int), .slice Al nz cl] 61)) wr.heap.size 1 _ _ _ (heap_alloc_new wr _)
          have s2 := hFa.held H1.out (fun h => h)
          have s3 := hFa.held H2.out (fun h => h)
          have s4 := H3.out.fresh hFa
          have s5 := H4.out.fresh hFa
          have HF6 := Go.Lib.hid (HFR.out.fresh hFa)
          clear hFa c0 c1 H1 H2 H3 H4
          generalize wr.alloc (.cells #[.int .i64 (k : Int), .slice Al nz cl] 61) = w6 at *
          generalize wr.heap.size = q at *
          rw [hzl] at s1 s4 ⊢
          rw [hz] at s3 s5
          have hs1 : w6.cell? ⟨q, 1, none⟩ = some zl := s1
          clear s1
          have s1 := hs1
          clear hs1
          replace s0 : w6.cell? ⟨q, 0, none⟩ = some (.int .i64 (k : Int)) := s0
          clear hzl hz
          refine reg_open (S := fun W => (W.cell? ⟨q, 0, none⟩ = some (.int .i64 (k : Int)) ∧ W.cell? ⟨q, 1, none⟩ = some zl) ∧ (W.cell? ⟨b, o + j * 2, none⟩ = some (.int .i64 (k : Int)) ∧ W.cell? ⟨b, o + j * 2 + 1, none⟩ = some z) ∧ Bts W zl dk ∧ Bts W z dk) 20 #[false, false, false, false, false, false, false, false, false, false, false, false, false, false, false, false, false, false, false, false] (by kernel_rfl) (by kernel_rfl) (by kernel_rfl) (by intro c a d v w h; cases d <;> exact h) (by kernel_rfl) (fun OPS QQ HO HQ hQP hSel => ?_)
          have hFd : Fresh w6 w6.drew := (Kept.refl w6 _).drew
          have hS0 : (fun W => (W.cell? ⟨q, 0, none⟩ = some (.int .i64 (k : Int)) ∧ W.cell? ⟨q, 1, none⟩ = some zl) ∧ (W.cell? ⟨b, o + j * 2, none⟩ = some (.int .i64 (k : Int)) ∧ W.cell? ⟨b, o + j * 2 + 1, none⟩ = some z) ∧ Bts W zl dk ∧ Bts W z dk) w6.drew := ⟨⟨s0, s1⟩, ⟨s2, s3⟩, s4.fresh hFd, s5.fresh hFd⟩
          have HF7 := Go.Lib.hid (HF6.out.fresh hFd)
          clear s0 s1 s2 s3 s4 s5 hFd
          generalize w6.drew = w7 at *
          refine reg_take (i := 0) (oi := ?o_1) (v := ?v_1) (listed' := #[true, false, false, false, false, false, false, false, false, false, false, false, false, false, false, false, false, false, false, false]) HO ?hi_1 hSel ?hf_1 ?hr_1 hQP (by kernel_rfl) ?hw_1 ?h_1 hS0 ?_
          case hi_1 => (simp only [List.getElem?_toArray, List.getElem?_cons_zero]; rfl)
          case hf_1 => kernel_rfl
          case hr_1 => kernel_rfl
          case hw_1 => rfl
          case h_1 => (intro W hSw; go_simp; first | done | with_reducible rfl)
          (try simp only [Act.put]); (try simp only [List.setIfInBounds_toArray]); (try simp only [List.set_cons_zero]); (try simp only [List.set_cons_succ])
          refine reg_take (i := 1) (oi := ?o_2) (v := ?v_2) (listed' := #[true, true, false, false, false, false, false, false, false, false, false, false, false, false, false, false, false, false, false, false]) HO ?hi_2 hSel ?hf_2 ?hr_2 hQP (by kernel_rfl) ?hw_2 ?h_2 hS0 ?_
          case hi_2 => (simp only [List.getElem?_toArray, List.getElem?_cons_succ, List.getElem?_cons_zero]; rfl)
          case hf_2 => kernel_rfl
          case hr_2 => kernel_rfl
          case hw_2 => rfl
          case h_2 => (intro W hSw; obtain ⟨⟨t0, t1⟩, ⟨t2, t3⟩, t4, t5⟩ := hSw; go_simp; first | done | with_reducible rfl)
          (try simp only [Act.put]); (try simp only [List.setIfInBounds_toArray]); (try simp only [List.set_cons_zero]); (try simp only [List.set_cons_succ])
          refine reg_take (i := 2) (oi := ?o_3) (v := ?v_3) (listed' := #[true, true, true, false, false, false, false, false, false, false, false, false, false, false, false, false, false, false, false, false]) HO ?hi_3 hSel ?hf_3 ?hr_3 hQP (by kernel_rfl) ?hw_3 ?h_3 hS0 ?_
          case hi_3 => (simp only [List.getElem?_toArray, List.getElem?_cons_succ, List.getElem?_cons_zero]; rfl)
          case hf_3 => kernel_rfl
          case hr_3 => kernel_rfl
          case hw_3 => rfl
          case h_3 => (intro W hSw; go_simp; first | done | with_reducible rfl)
          (try simp only [Act.put]); (try simp only [List.setIfInBounds_toArray]); (try simp only [List.set_cons_zero]); (try simp only [List.set_cons_succ])
          refine reg_take (i := 3) (oi := ?o_4) (v := ?v_4) (listed' := #[true, true, true, true, false, false, false, false, false, false, false, false, false, false, false, false, false, false, false, false]) HO ?hi_4 hSel ?hf_4 ?hr_4 hQP (by kernel_rfl) ?hw_4 ?h_4 hS0 ?_
          case hi_4 => (simp only [List.getElem?_toArray, List.getElem?_cons_succ, List.getElem?_cons_zero]; rfl)
          case hf_4 => kernel_rfl
          case hr_4 => kernel_rfl
          case hw_4 => rfl
          case h_4 => (intro W hSw; go_simp; first | done | with_reducible rfl)
          (try simp only [Act.put]); (try simp only [List.setIfInBounds_toArray]); (try simp only [List.set_cons_zero]); (try simp only [List.set_cons_succ])
          refine reg_take (i := 4) (oi := ?o_5) (v := ?v_5) (listed' := #[true, true, true, true, true, false, false, false, false, false, false, false, false, false, false, false, false, false, false, false]) HO ?hi_5 hSel ?hf_5 ?hr_5 hQP (by kernel_rfl) ?hw_5 ?h_5 hS0 ?_
          case hi_5 => (simp only [List.getElem?_toArray, List.getElem?_cons_succ, List.getElem?_cons_zero]; rfl)
          case hf_5 => kernel_rfl
          case hr_5 => kernel_rfl
          case hw_5 => rfl
          case h_5 => (intro W hSw; go_simp; first | done | with_reducible rfl)
          (try simp only [Act.put]); (try simp only [List.setIfInBounds_toArray]); (try simp only [List.set_cons_zero]); (try simp only [List.set_cons_succ])
          refine reg_take (i := 5) (oi := ?o_6) (v := ?v_6) (listed' := #[true, true, true, true, true, true, false, false, false, false, false, false, false, false, false, false, false, false, false, false]) HO ?hi_6 hSel ?hf_6 ?hr_6 hQP (by kernel_rfl) ?hw_6 ?h_6 hS0 ?_
          case hi_6 => (simp only [List.getElem?_toArray, List.getElem?_cons_succ, List.getElem?_cons_zero]; rfl)
          case hf_6 => kernel_rfl
          case hr_6 => kernel_rfl
          case hw_6 => rfl
          case h_6 => (intro W hSw; go_simp; first | done | with_reducible rfl)
          (try simp only [Act.put]); (try simp only [List.setIfInBounds_toArray]); (try simp only [List.set_cons_zero]); (try simp only [List.set_cons_succ])
          refine reg_take (i := 6) (oi := ?o_7) (v := ?v_7) (listed' := #[true, true, true, true, true, true, true, false, false, false, false, false, false, false, false, false, false, false, false, false]) HO ?hi_7 hSel ?hf_7 ?hr_7 hQP (by kernel_rfl) ?hw_7 ?h_7 hS0 ?_
          case hi_7 => (simp only [List.getElem?_toArray, List.getElem?_cons_succ, List.getElem?_cons_zero]; rfl)
          case hf_7 => kernel_rfl
          case hr_7 => kernel_rfl
          case hw_7 => rfl
          case h_7 => (intro W hSw; obtain ⟨⟨t0, t1⟩, ⟨t2, t3⟩, t4, t5⟩ := hSw; go_simp; first | done | with_reducible rfl)
          (try simp only [Act.put]); (try simp only [List.setIfInBounds_toArray]); (try simp only [List.set_cons_zero]); (try simp only [List.set_cons_succ])
          refine reg_take (i := 7) (oi := ?o_8) (v := ?v_8) (listed' := #[true, true, true, true, true, true, true, true, false, false, false, false, false, false, false, false, false, false, false, false]) HO ?hi_8 hSel ?hf_8 ?hr_8 hQP (by kernel_rfl) ?hw_8 ?h_8 hS0 ?_
          case hi_8 => (simp only [List.getElem?_toArray, List.getElem?_cons_succ, List.getElem?_cons_zero]; rfl)
          case hf_8 => kernel_rfl
          case hr_8 => kernel_rfl
          case hw_8 => rfl
          case h_8 => (intro W hSw; go_simp; first | done | with_reducible rfl)
          (try simp only [Act.put]); (try simp only [List.setIfInBounds_toArray]); (try simp only [List.set_cons_zero]); (try simp only [List.set_cons_succ])
          refine reg_take (i := 8) (oi := ?o_9) (v := ?v_9) (listed' := #[true, true, true, true, true, true, true, true, true, false, false, false, false, false, false, false, false, false, false, false]) HO ?hi_9 hSel ?hf_9 ?hr_9 hQP (by kernel_rfl) ?hw_9 ?h_9 hS0 ?_
          case hi_9 => (simp only [List.getElem?_toArray, List.getElem?_cons_succ, List.getElem?_cons_zero]; rfl)
          case hf_9 => kernel_rfl
          case hr_9 => kernel_rfl
          case hw_9 => rfl
          case h_9 => (intro W hSw; go_simp; first | done | with_reducible rfl)
          (try simp only [Act.put]); (try simp only [List.setIfInBounds_toArray]); (try simp only [List.set_cons_zero]); (try simp only [List.set_cons_succ])
          refine reg_take (i := 9) (oi := ?o_10) (v := ?v_10) (listed' := #[true, true, true, true, true, true, true, true, true, true, false, false, false, false, false, false, false, false, false, false]) HO ?hi_10 hSel ?hf_10 ?hr_10 hQP (by kernel_rfl) ?hw_10 ?h_10 hS0 ?_
          case hi_10 => (simp only [List.getElem?_toArray, List.getElem?_cons_succ, List.getElem?_cons_zero]; rfl)
          case hf_10 => kernel_rfl
          case hr_10 => kernel_rfl
          case hw_10 => rfl
          case h_10 => (intro W hSw; go_simp; first | done | with_reducible rfl)
          (try simp only [Act.put]); (try simp only [List.setIfInBounds_toArray]); (try simp only [List.set_cons_zero]); (try simp only [List.set_cons_succ])
          refine reg_take (i := 10) (oi := ?o_11) (v := ?v_11) (listed' := #[true, true, true, true, true, true, true, true, true, true, true, false, false, false, false, false, false, false, false, false]) HO ?hi_11 hSel ?hf_11 ?hr_11 hQP (by kernel_rfl) ?hw_11 ?h_11 hS0 ?_
          case hi_11 => (simp only [List.getElem?_toArray, List.getElem?_cons_succ, List.getElem?_cons_zero]; rfl)
          case hf_11 => kernel_rfl
          case hr_11 => kernel_rfl
          case hw_11 => rfl
          case h_11 => (intro W hSw; obtain ⟨⟨t0, t1⟩, ⟨t2, t3⟩, t4, t5⟩ := hSw; go_simp; first | done | with_reducible rfl)
          (try simp only [Act.put]); (try simp only [List.setIfInBounds_toArray]); (try simp only [List.set_cons_zero]); (try simp only [List.set_cons_succ])
          refine reg_take (i := 11) (oi := ?o_12) (v := ?v_12) (listed' := #[true, true, true, true, true, true, true, true, true, true, true, true, false, false, false, false, false, false, false, false]) HO ?hi_12 hSel ?hf_12 ?hr_12 hQP (by kernel_rfl) ?hw_12 ?h_12 hS0 ?_
          case hi_12 => (simp only [List.getElem?_toArray, List.getElem?_cons_succ, List.getElem?_cons_zero]; rfl)
          case hf_12 => kernel_rfl
          case hr_12 => kernel_rfl
          case hw_12 => rfl
          case h_12 => (intro W hSw; have t6 := str_of hSw.2.2.1 HDK2.out; go_simp; first | done | with_reducible rfl)
          (try simp only [Act.put]); (try simp only [List.setIfInBounds_toArray]); (try simp only [List.set_cons_zero]); (try simp only [List.set_cons_succ])
          refine reg_take (i := 12) (oi := ?o_13) (v := ?v_13) (listed' := #[true, true, true, true, true, true, true, true, true, true, true, true, true, false, false, false, false, false, false, false]) HO ?hi_13 hSel ?hf_13 ?hr_13 hQP (by kernel_rfl) ?hw_13 ?h_13 hS0 ?_
          case hi_13 => (simp only [List.getElem?_toArray, List.getElem?_cons_succ, List.getElem?_cons_zero]; rfl)
          case hf_13 => kernel_rfl
          case hr_13 => kernel_rfl
          case hw_13 => rfl
          case h_13 => (intro W hSw; go_simp; first | done | with_reducible rfl)
          (try simp only [Act.put]); (try simp only [List.setIfInBounds_toArray]); (try simp only [List.set_cons_zero]); (try simp only [List.set_cons_succ])
          refine reg_take (i := 13) (oi := ?o_14) (v := ?v_14) (listed' := #[true, true, true, true, true, true, true, true, true, true, true, true, true, true, false, false, false, false, false, false]) HO ?hi_14 hSel ?hf_14 ?hr_14 hQP (by kernel_rfl) ?hw_14 ?h_14 hS0 ?_
          case hi_14 => (simp only [List.getElem?_toArray, List.getElem?_cons_succ, List.getElem?_cons_zero]; rfl)
          case hf_14 => kernel_rfl
          case hr_14 => kernel_rfl
          case hw_14 => rfl
          case h_14 => (intro W hSw; go_simp; first | done | with_reducible rfl)
          (try simp only [Act.put]); (try simp only [List.setIfInBounds_toArray]); (try simp only [List.set_cons_zero]); (try simp only [List.set_cons_succ])
          refine reg_take (i := 14) (oi := ?o_15) (v := ?v_15) (listed' := #[true, true, true, true, true, true, true, true, true, true, true, true, true, true, true, false, false, false, false, false]) HO ?hi_15 hSel ?hf_15 ?hr_15 hQP (by kernel_rfl) ?hw_15 ?h_15 hS0 ?_
          case hi_15 => (simp only [List.getElem?_toArray, List.getElem?_cons_succ, List.getElem?_cons_zero]; rfl)
          case hf_15 => kernel_rfl
          case hr_15 => kernel_rfl
          case hw_15 => rfl
          case h_15 => (intro W hSw; go_simp; first | done | with_reducible rfl)
          (try simp only [Act.put]); (try simp only [List.setIfInBounds_toArray]); (try simp only [List.set_cons_zero]); (try simp only [List.set_cons_succ])
          refine reg_take (i := 15) (oi := ?o_16) (v := ?v_16) (listed' := #[true, true, true, true, true, true, true, true, true, true, true, true, true, true, true, true, false, false, false, false]) HO ?hi_16 hSel ?hf_16 ?hr_16 hQP (by kernel_rfl) ?hw_16 ?h_16 hS0 ?_
          case hi_16 => (simp only [List.getElem?_toArray, List.getElem?_cons_succ, List.getElem?_cons_zero]; rfl)
          case hf_16 => kernel_rfl
          case hr_16 => kernel_rfl
          case hw_16 => rfl
          case h_16 => (intro W hSw; go_simp; first | done | with_reducible rfl)
          (try simp only [Act.put]); (try simp only [List.setIfInBounds_toArray]); (try simp only [List.set_cons_zero]); (try simp only [List.set_cons_succ])
          refine reg_take (i := 16) (oi := ?o_17) (v := ?v_17) (listed' := #[true, true, true, true, true, true, true, true, true, true, true, true, true, true, true, true, true, false, false, false]) HO ?hi_17 hSel ?hf_17 ?hr_17 hQP (by kernel_rfl) ?hw_17 ?h_17 hS0 ?_
          case hi_17 => (simp only [List.getElem?_toArray, List.getElem?_cons_succ, List.getElem?_cons_zero]; rfl)
          case hf_17 => kernel_rfl
          case hr_17 => kernel_rfl
          case hw_17 => rfl
          case h_17 => (intro W hSw; obtain ⟨⟨t0, t1⟩, ⟨t2, t3⟩, t4, t5⟩ := hSw; go_simp; first | done | with_reducible rfl)
          (try simp only [Act.put]); (try simp only [List.setIfInBounds_toArray]); (try simp only [List.set_cons_zero]); (try simp only [List.set_cons_succ])
          refine reg_take (i := 17) (oi := ?o_18) (v := ?v_18) (listed' := #[true, true, true, true, true, true, true, true, true, true, true, true, true, true, true, true, true, true, false, false]) HO ?hi_18 hSel ?hf_18 ?hr_18 hQP (by kernel_rfl) ?hw_18 ?h_18 hS0 ?_
          case hi_18 => (simp only [List.getElem?_toArray, List.getElem?_cons_succ, List.getElem?_cons_zero]; rfl)
          case hf_18 => kernel_rfl
          case hr_18 => kernel_rfl
          case hw_18 => rfl
          case h_18 => (intro W hSw; have t6 := str_of hSw.2.2.2 HDK2.out; go_simp; first | done | with_reducible rfl)
          (try simp only [Act.put]); (try simp only [List.setIfInBounds_toArray]); (try simp only [List.set_cons_zero]); (try simp only [List.set_cons_succ])
          refine reg_take (i := 18) (oi := ?o_19) (v := ?v_19) (listed' := #[true, true, true, true, true, true, true, true, true, true, true, true, true, true, true, true, true, true, true, false]) HO ?hi_19 hSel ?hf_19 ?hr_19 hQP (by kernel_rfl) ?hw_19 ?h_19 hS0 ?_
          case hi_19 => (simp only [List.getElem?_toArray, List.getElem?_cons_succ, List.getElem?_cons_zero]; rfl)
          case hf_19 => kernel_rfl
          case hr_19 => kernel_rfl
          case hw_19 => rfl
          case h_19 => (intro W hSw; go_simp; first | done | with_reducible rfl)
          (try simp only [Act.put]); (try simp only [List.setIfInBounds_toArray]); (try simp only [List.set_cons_zero]); (try simp only [List.set_cons_succ])
          refine reg_take (i := 19) (oi := ?o_20) (v := ?v_20) (listed' := #[true, true, true, true, true, true, true, true, true, true, true, true, true, true, true, true, true, true, true, true]) HO ?hi_20 hSel ?hf_20 ?hr_20 hQP (by kernel_rfl) ?hw_20 ?h_20 hS0 ?_
          case hi_20 => (simp only [List.getElem?_toArray, List.getElem?_cons_succ, List.getElem?_cons_zero]; rfl)
          case hf_20 => kernel_rfl
          case hr_20 => kernel_rfl
          case hw_20 => rfl
          case h_20 => (intro W hSw; go_simp; first | done | with_reducible rfl)
          (try simp only [Act.put]); (try simp only [List.setIfInBounds_toArray]); (try simp only [List.set_cons_zero]); (try simp only [List.set_cons_succ])
          refine reg_done HO HQ (by kernel_rfl) ?_
          clear HO HQ hQP hSel hS0
          go_wp2_with (fail)
          go_roundw
          case rel => exact ⟨j + 1, hjn, by simp, HF7.out⟩
          case measure => simp [intOf]; omega
        · obtain rfl : j = n := by omega
          go_wp2_with (fail)
          refine (works_any _).mono ?_
          rintro e w8 ⟨rfl, hF8⟩
          have HF8 := Go.Lib.hid ((HF5.out.fresh HFR.out).fresh hF8)
          clear hF8
          go_wp2
          go_ret
          exact ⟨rfl, HF8.out⟩
end Go.Proofs.Ytahcaoenddapoaa
