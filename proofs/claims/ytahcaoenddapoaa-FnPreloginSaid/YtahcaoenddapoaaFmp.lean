/- FormatPrelogin. (Region 8 printed by gen30.py.) -/
import Derived.Test.YtahcaoenddapoaaZpl
import Derived.Test.YtahcaoenddapoaaStp2
import Derived.Deep.Cut
import Derived.IntWalk
import Derived.Deep.QuietTactic
import Derived.BigQuiet
import Derived.Deep.RegionHeld3
namespace Go.Proofs.Ytahcaoenddapoaa
open Go.RowKit

/-- The cells of a row of options from the block b, at o. -/
def Opts (w : World) (b o : Nat) (ks : List Nat) (D : Nat → List Nat) : Prop :=
  ∀ i (h : i < ks.length), w.cell? ⟨b, o + i * 2, none⟩ = some (.int .i64 ((ks[i] : Nat) : Int)) ∧ ∃ z, w.cell? ⟨b, o + i * 2 + 1, none⟩ = some z ∧ Bts w z (D ks[i])

theorem Opts.fresh {w w' : World} {b o : Nat} {ks : List Nat} {D : Nat → List Nat} (h : Opts w b o ks D) (hk : Fresh w w') : Opts w' b o ks D := fun i hi => by
  obtain ⟨h1, z, h2, h3⟩ := h i hi
  exact ⟨hk.held h1 (fun h => h), z, hk.held h2 (fun h => h), h3.fresh hk⟩

set_option maxRecDepth 100000 in
set_option maxHeartbeats 1000000 in
theorem format_any (b o c : Nat) (D : Nat → List Nat) (ks : List Nat) (hf : Fine D ks) (n : Nat) (hn : ks.length = n) (w : World) (hO : Opts w b o ks D) :
    Calls Try.prog 30 #[.slice (some ⟨b, o, none⟩) n c] w fun e w' => ∃ v, e = .returned (.tuple #[v, .bool true]) ∧ Bts w' v (pre D ks) ∧ Fresh w w' := by
  obtain ⟨i0, hi, hz0, hz1, hz2⟩ := info_parts info5
  have hmm := @run_makeMap Try.prog
  have HF := Go.Lib.hid hf
  have HOP := Go.Lib.hid hO
  have HN := Go.Lib.hid hn
  have i1 : (n : Int) ≤ 10 := by have := hf.n1; omega
  clear hf hO hn
  go_enter Try.func30, Try.ntmps30
  go_wp2_with (fail)
  obtain ⟨mb, hmb⟩ : ∃ mb, w.heap.size = mb := ⟨_, rfl⟩
  obtain ⟨p, hp⟩ : ∃ p, mb + 1 = p := ⟨_, rfl⟩
  have hmap := MapIs.new Try.prog 5 w
  have hF0 : Fresh w (w.alloc (.map #[] 0)) := (Kept.refl w (fun _ => False)).alloc _
  have hF1 : Fresh (w.alloc (.map #[] 0)) ((w.alloc (.map #[] 0)).alloc (.cells #[.map (some mb)] 105)) := (Kept.refl _ (fun _ => False)).alloc _
  have hc0 : ((w.alloc (.map #[] 0)).alloc (.cells #[.map (some mb)] 105)).cell? ⟨p, 0, none⟩ = some (.map (some mb)) := by
    have h := cell_of_row ((w.alloc (.map #[] 0)).alloc (.cells #[.map (some mb)] 105)) p 0 #[.map (some mb)] 105 (0, 0) (by
      have h2 := heap_alloc_new (w.alloc (.map #[] 0)) (.cells #[.map (some mb)] 105)
      have h3 : (w.alloc (.map #[] 0)).heap.size = p := by rw [← hp, ← hmb]; simp
      rw [h3] at h2
      exact h2)
    exact h
  rw [hmb, hp]
  rw [hmb] at hmap
  have HMAP := Go.Lib.hid (hmap.fresh hF1)
  have HF0 := Go.Lib.hid (hF0.fresh hF1)
  have HC0 := Go.Lib.hid hc0
  have HMB := Go.Lib.hid (And.intro hmb hp)
  have HMP := Go.Lib.hid (show mb < p by omega)
  clear hmap hF0 hF1 hc0 hmb hp
  generalize (w.alloc (.map #[] 0)).alloc (.cells #[.map (some mb)] 105) = w1 at *
  go_loopw [12] (fun i wr => ∃ (j : Nat) (M : List (Nat × Value)), j ≤ n ∧ i = .int .i64 (j : Int) ∧ MapIs Try.prog 5 wr mb M ∧ M.map Prod.fst = ks.take j ∧ (∀ k z, M.lookup k = some z → Bts wr z (D k) ∧ ∀ x, z.ownBlock = some x → p < x) ∧ wr.cell? ⟨p, 0, none⟩ = some (.map (some mb)) ∧ Fresh w wr) (fun i _ => n - (intOf i).toNat)
  case atStart => exact ⟨0, [], Nat.zero_le _, rfl, HMAP.out, by simp, (fun _ _ h => by cases h), HC0.out, HF0.out⟩
  case round =>
    obtain ⟨j, M, hj, rfl, hm, hmk, hmd, hcp, hF⟩ := hrel
    have HM := Go.Lib.hid hm
    have HMK := Go.Lib.hid hmk
    have HMD := Go.Lib.hid hmd
    have HFF := Go.Lib.hid hF
    clear hm hmk hmd hF
    by_cases hjn : j < n
    · have hjk : j < ks.length := by rw [HN.out]; exact hjn
      obtain ⟨o1, z, o2, o3⟩ := (HOP.out.fresh HFF.out) j hjk
      have hmem := List.getElem_mem hjk
      have hk1 := HF.out.lt _ hmem
      have htk : ks.take (j + 1) = ks.take j ++ [ks[j]] := List.take_succ_eq_append_getElem hjk
      have hnotin : ks[j] ∉ ks.take j := by
        intro hin
        have h1 := HF.out.up
        have h2 := split_at ks j hjk
        rw [h2, List.pairwise_append] at h1
        have h3 := h1.2.2 _ hin ks[j] (List.mem_cons_self ..)
        exact Nat.lt_irrefl _ h3
      have hnoM : M.lookup ks[j] = none := lookup_none_of (by rw [HMK.out]; exact hnotin)
      have hMl : M.length ≤ 10 := by
        have h1 := congrArg List.length HMK.out
        rw [List.length_map, List.length_take] at h1
        omega
      have hdl := HF.out.l1 _ hmem
      have HTK := Go.Lib.hid htk
      have HNO := Go.Lib.hid hnoM
      have HML := Go.Lib.hid hMl
      clear htk hnoM hnotin hmem hMl
      obtain ⟨dk, hdk⟩ : ∃ dk, D ks[j] = dk := ⟨_, rfl⟩
      have HDK := Go.Lib.hid hdk
      rw [hdk] at o3 hdl
      have HDL := Go.Lib.hid hdl
      clear hdk hdl
      generalize ks[j] = k at *
      obtain ⟨A, cz, rfl, hcz⟩ := o3.slice
      have HB := Go.Lib.hid o3
      obtain ⟨nz, hnz⟩ : ∃ nz, dk.length = nz := ⟨_, rfl⟩
      rw [hnz] at o2 hcz HB
      have HNZ := Go.Lib.hid hnz
      clear hnz o3
      go_upto_region 5 with (fail)
      have hF2 : Fresh wr (wr.alloc (.cells #[.int .i64 (k : Int), .slice A nz cz] 61)) := (Kept.refl wr (fun _ => False)).alloc _
      have hq0 := cell_of_row (wr.alloc (.cells #[.int .i64 (k : Int), .slice A nz cz] 61)) wr.heap.size 0 _ _ _ (heap_alloc_new wr _)
      have hq1 := cell_of_row (wr.alloc (.cells #[.int .i64 (k : Int), .slice A nz cz] 61)) wr.heap.size 1 _ _ _ (heap_alloc_new wr _)
      have hcp2 := hF2.held hcp (fun h => h)
      have hsz2 : (wr.alloc (.cells #[.int .i64 (k : Int), .slice A nz cz] 61)).heap.size = wr.heap.size + 1 := by simp
      have HF2 := Go.Lib.hid hF2
      have HSZ2 := Go.Lib.hid hsz2
      have hpq : p < wr.heap.size := World.block_lt_of_cell? wr _ hcp
      have HPQ := Go.Lib.hid hpq
      clear hF2 hsz2 hpq o1 o2 hcp
      generalize wr.alloc (.cells #[.int .i64 (k : Int), .slice A nz cz] 61) = w2 at *
      generalize hq : wr.heap.size = q at *
      have HQQ := Go.Lib.hid hq
      clear hq
      have hmiss := (HM.out.fresh HF2.out).miss Try.underlying5 Try.underlying105 (z := .slice none 0 0) (by kernel_rfl) k (by omega) HNO.out
      have i2 : (k : Int) < 255 := by omega
      go_upto_region 8 with (fail)
      have hw20 : Fresh w2 w2.drew := (Kept.refl w2 _).drew
      have hwr : IntKind.u8.wrap (k : Int) = (k : Int) := IntWalk.u8_in _ (by omega)
      refine reg_open (S := fun W => W.cell? ⟨p, 0, none⟩ = some (.map (some mb)) ∧ W.cell? ⟨q, 0, none⟩ = some (.int .i64 (k : Int)) ∧ W.cell? ⟨q, 1, none⟩ = some (.slice A nz cz)) 9 #[false, false, false, false, false, false, false, false, false] (by kernel_rfl) (by kernel_rfl) (by kernel_rfl) (by intro c a d v w h; cases d <;> exact h) (by kernel_rfl) (fun OPS QQ HO HQ hQP hSel => ?_)
      have hS0 : (fun W => W.cell? ⟨p, 0, none⟩ = some (.map (some mb)) ∧ W.cell? ⟨q, 0, none⟩ = some (.int .i64 (k : Int)) ∧ W.cell? ⟨q, 1, none⟩ = some (.slice A nz cz)) w2.drew := ⟨hcp2, hq0, hq1⟩
      have hszd : w2.drew.heap.size = q + 1 := HSZ2.out
      clear hcp2 hq0 hq1 hmiss
      generalize hw2 : w2.drew = w3 at *
      refine reg_take (i := 0) (oi := ?o_1) (v := ?v_1) (listed' := #[true, false, false, false, false, false, false, false, false]) HO ?hi_1 hSel ?hf_1 ?hr_1 hQP (by kernel_rfl) ?hw_1 ?h_1 hS0 ?_
      case hi_1 => (simp only [List.getElem?_toArray, List.getElem?_cons_zero]; rfl)
      case hf_1 => kernel_rfl
      case hr_1 => kernel_rfl
      case hw_1 => rfl
      case h_1 => (intro W hSw; obtain ⟨s0, s1, s2⟩ := hSw; go_simp; first | done | with_reducible rfl)
      (try simp only [Act.put]); (try simp only [List.setIfInBounds_toArray]); (try simp only [List.set_cons_zero]); (try simp only [List.set_cons_succ])
      refine reg_take (i := 1) (oi := ?o_2) (v := ?v_2) (listed' := #[true, true, false, false, false, false, false, false, false]) HO ?hi_2 hSel ?hf_2 ?hr_2 hQP (by kernel_rfl) ?hw_2 ?h_2 hS0 ?_
      case hi_2 => (simp only [List.getElem?_toArray, List.getElem?_cons_succ, List.getElem?_cons_zero]; rfl)
      case hf_2 => kernel_rfl
      case hr_2 => kernel_rfl
      case hw_2 => rfl
      case h_2 => (intro W hSw; obtain ⟨s0, s1, s2⟩ := hSw; go_simp; first | done | with_reducible rfl)
      (try simp only [Act.put]); (try simp only [List.setIfInBounds_toArray]); (try simp only [List.set_cons_zero]); (try simp only [List.set_cons_succ])
      refine reg_take (i := 2) (oi := ?o_3) (v := ?v_3) (listed' := #[true, true, true, false, false, false, false, false, false]) HO ?hi_3 hSel ?hf_3 ?hr_3 hQP (by kernel_rfl) ?hw_3 ?h_3 hS0 ?_
      case hi_3 => (simp only [List.getElem?_toArray, List.getElem?_cons_succ, List.getElem?_cons_zero]; rfl)
      case hf_3 => kernel_rfl
      case hr_3 => kernel_rfl
      case hw_3 => rfl
      case h_3 => (intro W hSw; obtain ⟨s0, s1, s2⟩ := hSw; go_simp; first | done | with_reducible rfl)
      (try simp only [Act.put]); (try simp only [List.setIfInBounds_toArray]); (try simp only [List.set_cons_zero]); (try simp only [List.set_cons_succ])
      refine reg_take (i := 3) (oi := ?o_4) (v := ?v_4) (listed' := #[true, true, true, true, false, false, false, false, false]) HO ?hi_4 hSel ?hf_4 ?hr_4 hQP (by kernel_rfl) ?hw_4 ?h_4 hS0 ?_
      case hi_4 => (simp only [List.getElem?_toArray, List.getElem?_cons_succ, List.getElem?_cons_zero]; rfl)
      case hf_4 => kernel_rfl
      case hr_4 => kernel_rfl
      case hw_4 => rfl
      case h_4 => (intro W hSw; obtain ⟨s0, s1, s2⟩ := hSw; go_simp; first | done | with_reducible rfl)
      (try simp only [Act.put]); (try simp only [List.setIfInBounds_toArray]); (try simp only [List.set_cons_zero]); (try simp only [List.set_cons_succ])
      refine reg_take (i := 5) (oi := ?o_5) (v := ?v_5) (listed' := #[true, true, true, true, false, true, false, false, false]) HO ?hi_5 hSel ?hf_5 ?hr_5 hQP (by kernel_rfl) ?hw_5 ?h_5 hS0 ?_
      case hi_5 => (simp only [List.getElem?_toArray, List.getElem?_cons_succ, List.getElem?_cons_zero]; rfl)
      case hf_5 => kernel_rfl
      case hr_5 => kernel_rfl
      case hw_5 => rfl
      case h_5 => (intro W hSw; obtain ⟨s0, s1, s2⟩ := hSw; go_simp; first | done | with_reducible rfl)
      (try simp only [Act.put]); (try simp only [List.setIfInBounds_toArray]); (try simp only [List.set_cons_zero]); (try simp only [List.set_cons_succ])
      refine reg_take (i := 6) (oi := ?o_6) (v := ?v_6) (listed' := #[true, true, true, true, false, true, true, false, false]) HO ?hi_6 hSel ?hf_6 ?hr_6 hQP (by kernel_rfl) ?hw_6 ?h_6 hS0 ?_
      case hi_6 => (simp only [List.getElem?_toArray, List.getElem?_cons_succ, List.getElem?_cons_zero]; rfl)
      case hf_6 => kernel_rfl
      case hr_6 => kernel_rfl
      case hw_6 => rfl
      case h_6 => (intro W hSw; obtain ⟨s0, s1, s2⟩ := hSw; go_simp; first | done | with_reducible rfl)
      (try simp only [Act.put]); (try simp only [List.setIfInBounds_toArray]); (try simp only [List.set_cons_zero]); (try simp only [List.set_cons_succ])
      refine reg_one (i := 4) (o := ?o_7) (listed' := #[true, true, true, true, true, true, true, false, false]) HO ?hi_7 ?hr_7 (by kernel_rfl) ?hw_7 (fun K hK => ?_)
      case hi_7 => (simp only [List.getElem?_toArray, List.getElem?_cons_succ, List.getElem?_cons_zero]; rfl)
      case hr_7 => kernel_rfl
      case hw_7 => rfl
      go_simp
      have hF4 : Fresh w3 (w3.alloc (.cells #[] 5)) := (Kept.refl w3 (fun _ => False)).alloc _
      have hS4 : (fun W => W.cell? ⟨p, 0, none⟩ = some (.map (some mb)) ∧ W.cell? ⟨q, 0, none⟩ = some (.int .i64 (k : Int)) ∧ W.cell? ⟨q, 1, none⟩ = some (.slice A nz cz)) (w3.alloc (.cells #[] 5)) := ⟨hF4.held hS0.1 (fun h => h), hF4.held hS0.2.1 (fun h => h), hF4.held hS0.2.2 (fun h => h)⟩
      have hr4 : Row (p + 1) (w3.alloc (.cells #[] 5)) (.slice (some ⟨w3.heap.size, 0, none⟩) 0 0) [] := Row.empty_new w3 _ (by have := HPQ.out; omega)
      have hb4 : Bts (w3.alloc (.cells #[] 5)) (.slice A nz cz) dk := ((HB.out.fresh HF2.out).fresh hw20).fresh hF4
      have hm4 : MapIs Try.prog 5 (w3.alloc (.cells #[] 5)) mb M := ((HM.out.fresh HF2.out).fresh hw20).fresh hF4
      have hsz4 : (w3.alloc (.cells #[] 5)).heap.size = q + 1 + 1 := by rw [← hszd]; simp
      have hF04 : Fresh wr (w3.alloc (.cells #[] 5)) := (HF2.out.fresh hw20).fresh hF4
      refine hK.out _ _ hS4 (fun _ => ?_)
      clear hK K hS0 hF4
      rw [hszd] at hr4
      generalize w3.alloc (.cells #[] 5) = w4 at *
      refine reg_one (i := 7) (o := ?o_8) (listed' := #[true, true, true, true, true, true, true, true, false]) HO ?hi_8 ?hr_8 (by kernel_rfl) ?hw_8 (fun K hK => ?_)
      case hi_8 => (simp only [List.getElem?_toArray, List.getElem?_cons_succ, List.getElem?_cons_zero]; rfl)
      case hr_8 => kernel_rfl
      case hw_8 => rfl
      refine wp_append_bts _ (.tmp 38) (.tmp 40) 24 24 rfl (p + 1) i0 Try.underlying24 Try.underlying24 hi hz0 hz1 hz2 (.slice (some ⟨q + 1, 0, none⟩) 0 0) (.slice A nz cz) (by kernel_rfl) (by kernel_rfl) [] dk hr4 hb4 (by have := HDL.out; simp; omega) (by have := HPQ.out; omega) ?_
      intro A5 c5 w5 hr5 hg5 hm5
      have eN : ([] : List Nat).length + dk.length = nz := by simp [HNZ.out]
      rw [eN] at hr5 hm5 ⊢
      rw [List.nil_append] at hr5
      have hK5 : Kept w4 w5 (fun j => j = q + 1) := (Kept.of_grown hg5).mono (fun j _ hj => by simp [Value.ownBlock] at hj; omega)
      have hpq := HPQ.out
      have hmq := HMP.out
      have hS5 : (fun W => W.cell? ⟨p, 0, none⟩ = some (.map (some mb)) ∧ W.cell? ⟨q, 0, none⟩ = some (.int .i64 (k : Int)) ∧ W.cell? ⟨q, 1, none⟩ = some (.slice A nz cz)) w5 := ⟨hK5.held hS4.1 (fun h => by simp at h; omega), hK5.held hS4.2.1 (fun h => by simp at h), hK5.held hS4.2.2 (fun h => by simp at h)⟩
      have hm5' : MapIs Try.prog 5 w5 mb M := hm4.kept hK5 (fun h => by omega)
      have hF05 : Fresh wr w5 := hF04.trans hK5 (fun j hj h => by have := HQQ.out; omega)
      refine hK.out _ _ hS5 (fun _ => ?_)
      clear hK K hS4 hm4 hr4 hb4 hF04 hm5 hg5 hK5 hsz4
      refine reg_one (i := 8) (o := ?o_9) (listed' := #[true, true, true, true, true, true, true, true, true]) HO ?hi_9 ?hr_9 (by kernel_rfl) ?hw_9 (fun K hK => ?_)
      case hi_9 => (simp only [List.getElem?_toArray, List.getElem?_cons_succ, List.getElem?_cons_zero]; rfl)
      case hr_9 => kernel_rfl
      case hw_9 => rfl
      refine wp_put_map (.tmp 34) (.tmp 37) (.tmp 41) rfl Try.underlying5 Try.underlying105 mb M hm5' (by have := HML.out; omega) k (by omega) (.slice A5 nz c5) HNO.out (by kernel_rfl) (by kernel_rfl) (by kernel_rfl) ?_
      intro w6 hm6 hk6
      have hS6 : (fun W => W.cell? ⟨p, 0, none⟩ = some (.map (some mb)) ∧ W.cell? ⟨q, 0, none⟩ = some (.int .i64 (k : Int)) ∧ W.cell? ⟨q, 1, none⟩ = some (.slice A nz cz)) w6 := ⟨hk6.held hS5.1 (fun h => by simp at h; omega), hk6.held hS5.2.1 (fun h => by simp at h; omega), hk6.held hS5.2.2 (fun h => by simp at h; omega)⟩
      refine hK.out _ _ hS6 (fun _ => ?_)
      simp only [Act.put]
      refine reg_done HO HQ (by kernel_rfl) ?_
      have HM6 := Go.Lib.hid hm6
      have HK6 := Go.Lib.hid hk6
      have HR5 := Go.Lib.hid hr5
      have HF05 := Go.Lib.hid hF05
      have hcp6 := hS6.1
      clear hK K hS6 hS5 hm6 hk6 hr5 hF05 hm5' HO HQ hQP hSel hw20 hw2
      go_wp2_with (fail)
      go_roundw
      case rel =>
        have hF6 : Fresh w w6 := (HFF.out.trans HF05.out (fun _ _ h => h)).trans HK6.out (fun x hx h => by have := HMB.out.1; omega)
        refine ⟨j + 1, M ++ [(k, .slice A5 nz c5)], hjn, by simp, HM6.out, ?_, ?_, hcp6, hF6⟩
        · rw [List.map_append, HMK.out, HTK.out]
          rfl
        · intro k' z' h'
          rw [lookup_snoc M k k' _ HNO.out] at h'
          have hpm := HMP.out
          by_cases hkk : k' = k
          · rw [if_pos hkk] at h'
            injection h' with h'
            subst h'
            subst hkk
            rw [HDK.out]
            exact ⟨(HR5.out.kept HK6.out (fun x hx e => by have := HR5.out.block x hx; omega)).bts, fun x hx => by have := HR5.out.block x hx; omega⟩
          · rw [if_neg hkk] at h'
            obtain ⟨d1, d2⟩ := HMD.out k' z' h'
            exact ⟨(d1.fresh HF05.out).kept HK6.out (fun x hx e => by have := d2 x hx; omega), d2⟩
      case measure => simp [intOf]; omega
    · have hjn2 : j = n := by omega
      subst hjn2
      have hHas : Has wr mb D ks := ⟨M, HM.out, by rw [HMK.out, ← HN.out, List.take_length], fun k z hz => (HMD.out k z hz).1⟩
      have HHAS := Go.Lib.hid hHas
      have hfl := HF.out.flat
      have hn1 := HF.out.n1
      have hpl := pre_length D ks
      have hal : AllPacked 32759 18 (pre D ks) (packed 32759 18 0 (pre D ks)) := ⟨0, .inl rfl, by omega, rfl⟩
      generalize packed 32759 18 0 (pre D ks) = l at hal
      have HLL := Go.Lib.hid hal
      have hl1 := hal.few (by omega) (by omega)
      have hst := Go.Lib.hid (str_all (ps := 32767) hal (by omega) (by omega) (by omega))
      have HCP := Go.Lib.hid hcp
      have HP2 := Go.Lib.hid (show (pre D ks).length ≤ 2000 by omega)
      clear hHas hal hfl hn1 hpl hcp
      go_wp2_with (fail)
      refine (made_any 65 _ l (by omega) wr (enter65 _) (fun W hW => format1_any mb p D ks HF.out l HLL.out W (HHAS.out.fresh hW) (hW.held HCP.out (fun h => h)))).mono ?_
      rintro e w5 ⟨v5, rfl, hr5, hF5⟩
      obtain ⟨A5, c5, rfl⟩ := hr5.slice
      have HR5 := Go.Lib.hid hr5.bts
      have HF5 := Go.Lib.hid (HFF.out.fresh hF5)
      clear hr5 hF5
      go_wp2_with (fail)
      refine (payload_any 18 l (pre D ks) (by omega) hst.out (by omega) (by have := HP2.out; omega) A5 _ c5 w5 HR5.out).mono ?_
      rintro e w6 ⟨v6, rfl, hr6, hF6⟩
      have HR6 := Go.Lib.hid hr6.bts
      have HF6 := Go.Lib.hid (HF5.out.fresh hF6)
      clear hr6 hF6
      go_wp2
      go_ret2
      exact ⟨v6, rfl, HR6.out, HF6.out⟩
end Go.Proofs.Ytahcaoenddapoaa
