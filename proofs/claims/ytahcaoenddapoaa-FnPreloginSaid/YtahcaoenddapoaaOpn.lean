/- laws.zzFits1, zzFits2: whatever the options: they answer. laws.options: the options that are compared. -/
import Derived.Test.YtahcaoenddapoaaOrw
import Derived.Test.YtahcaoenddapoaaPkt
import Derived.Deep.Cut
import Derived.IntWalk
import Derived.Deep.QuietTactic
import Derived.BigQuiet
namespace Go.Proofs.Ytahcaoenddapoaa
section
open Go.RowKit

/-- A truth has been returned. -/
def Answers (e : Ending) : Prop := ∃ b, e = .returned (.bool b)

/-- Options as they came in: a token, a slice, the bytes that it reads. -/
def Inp (w : World) (b o : Nat) (X : List (Int × Value × List Nat)) : Prop :=
  ∀ i (h : i < X.length), w.cell? ⟨b, o + i * 2, none⟩ = some (.int .i64 X[i].1) ∧ w.cell? ⟨b, o + i * 2 + 1, none⟩ = some X[i].2.1 ∧ ((∃ A c, X[i].2.1 = .slice A X[i].2.2.length c) ∧ (X[i].2.2.length ≠ 0 → Bts w X[i].2.1 X[i].2.2)) ∧ -9223372036854775808 ≤ X[i].1 ∧ X[i].1 ≤ 9223372036854775807

theorem Inp.fresh {w w' : World} {b o : Nat} {X : List (Int × Value × List Nat)} (h : Inp w b o X) (hk : Fresh w w') : Inp w' b o X := fun i hi => by
  obtain ⟨h1, h2, h3, h4⟩ := h i hi
  exact ⟨hk.held h1 (fun h => h), hk.held h2 (fun h => h), ⟨h3.1, fun hn => (h3.2 hn).fresh hk⟩, h4⟩

set_option maxRecDepth 100000 in
theorem fits2_any (t : Int) (A : Option Addr) (n c : Nat) (w : World) :
    Calls Try.prog 64 #[.agg #[.int .i64 t, .slice A n c]] w fun e w' => Answers e ∧ Fresh w w' := by
  go_enter Try.func64, Try.ntmps64
  by_cases h : (n : Int) > 2147483647
  · have h1 : ¬ (n : Int) ≤ 2147483647 := by omega
    have h2 : 2147483647 < n := by omega
    go_wp2
    go_ret
    exact ⟨⟨_, rfl⟩, (Kept.refl w _).alloc _⟩
  · have h1 : (n : Int) ≤ 2147483647 := by omega
    have h2 : ¬ 2147483647 < n := by omega
    go_wp2
    go_ret
    exact ⟨⟨_, rfl⟩, (Kept.refl w _).alloc _⟩

set_option maxRecDepth 100000 in
set_option maxHeartbeats 1000000 in
theorem fits1_any (A : Option Addr) (n c : Nat) (X : List (Int × Value × List Nat)) (hn : X.length = n) (w : World) (hX : n ≠ 0 → ∃ b o, A = some ⟨b, o, none⟩ ∧ Inp w b o X) :
    Calls Try.prog 27 #[.slice A n c] w fun e w' => Answers e ∧ Fresh w w' := by
  have HX := Go.Lib.hid hX
  have HN := Go.Lib.hid hn
  clear hX hn
  go_enter Try.func27, Try.ntmps27
  by_cases h : (n : Int) > 2147483647
  · have h1 : ¬ (n : Int) ≤ 2147483647 := by omega
    have h2 : 2147483647 < n := by omega
    go_wp2
    go_ret
    exact ⟨⟨_, rfl⟩, Kept.refl w _⟩
  · have h1 : (n : Int) ≤ 2147483647 := by omega
    have h2 : ¬ 2147483647 < n := by omega
    go_wp2_with (fail)
    go_loopw [10] (fun i wr => ∃ j : Nat, j ≤ n ∧ i = .int .i64 (j : Int) ∧ Fresh w wr) (fun i _ => n - (intOf i).toNat)
    case atStart => exact ⟨0, Nat.zero_le _, rfl, Kept.refl _ _⟩
    case round =>
      obtain ⟨j, hj, rfl, hF⟩ := hrel
      by_cases hjn : j < n
      · obtain ⟨b, o, rfl, hI⟩ := HX.out (by omega)
        obtain ⟨o1, o2, o3, o4⟩ := (hI.fresh hF) j (by rw [HN.out]; exact hjn)
        have o5 := o3.1
        have HFF := Go.Lib.hid hF
        clear hI hF o3 o4
        generalize X[j]'(by rw [HN.out]; exact hjn) = x at *
        obtain ⟨t, z, dl⟩ := x
        obtain ⟨A, cz, hz⟩ := o5
        simp only at hz o1 o2
        subst hz
        generalize dl.length = nz at *
        go_wp2_with (fail)
        refine (fits2_any t A nz cz _).mono ?_
        rintro e w1 ⟨⟨b1, rfl⟩, hF1⟩
        have hF2 : Fresh w w1 := (HFF.out.alloc _).trans hF1 (fun _ _ h => h)
        have HF2 := Go.Lib.hid hF2
        clear hF1 hF2
        cases b1 with
        | false =>
          go_wp2
          go_ret
          exact ⟨⟨_, rfl⟩, HF2.out⟩
        | true =>
          go_wp2
          go_roundw
          case rel => exact ⟨j + 1, hjn, by simp, HF2.out⟩
          case measure => simp [intOf]; omega
      · obtain rfl : j = n := by omega
        have HFF := Go.Lib.hid hF
        clear hF
        go_wp2
        go_ret
        exact ⟨⟨_, rfl⟩, HFF.out⟩
end

section
open Go.RowKit

/-- The option i is one that is compared. -/
structure Fit (X : List (Int × Value × List Nat)) (i : Nat) (h : i < X.length) : Prop where
  lo : (i : Int) ≤ X[i].1
  hi : X[i].1 ≤ 254
  ne : X[i].1 ≠ 5
  l0 : 0 < X[i].2.2.length
  l1 : X[i].2.2.length ≤ 100
  up : ∀ h' : 0 < i, (X[i - 1]'(by omega)).1 < X[i].1

def asOpt (x : Int × Value × List Nat) : Nat × Value := (x.1.toNat, x.2.1)

def Opq (w w' : World) (X : List (Int × Value × List Nat)) (e : Ending) : Prop :=
  (∃ v, e = .returned (.tuple #[v, .bool false])) ∨
  (0 < X.length ∧ X.length ≤ 10 ∧ (∀ i h, Fit X i h) ∧ ∃ v, e = .returned (.tuple #[v, .bool true]) ∧ RowO 104 w.heap.size w' v (X.map asOpt))

set_option maxRecDepth 100000 in
set_option maxHeartbeats 2000000 in
theorem options_any (A : Option Addr) (n c : Nat) (X : List (Int × Value × List Nat)) (hn : X.length = n) (w : World) (hX : n ≠ 0 → ∃ b o, A = some ⟨b, o, none⟩ ∧ Inp w b o X) :
    Calls Try.prog 28 #[.slice A n c] w fun e w' => Opq w w' X e ∧ Fresh w w' := by
  obtain ⟨i1, hi1, hy0, hy1, hy2⟩ := info_parts info104
  have HX := Go.Lib.hid hX
  have HN := Go.Lib.hid hn
  clear hX hn
  go_enter Try.func28, Try.ntmps28
  go_wp2_with (fail)
  go_loopw [9, 4] (fun i out wr => ∃ j : Nat, j ≤ n ∧ i = .int .i64 (j : Int) ∧ RowO 104 w.heap.size wr out ((X.take j).map asOpt) ∧ (∀ i h, i < j → Fit X i h) ∧ Fresh w wr) (fun i _ _ => n - (intOf i).toNat)
  case atStart => exact ⟨0, Nat.zero_le _, rfl, RowO.nil _ _ _, (fun i h hi => by omega), Kept.refl _ _⟩
  case round =>
    obtain ⟨j, hj, rfl, hr, hfit, hF⟩ := hrel
    have HFIT := Go.Lib.hid hfit
    have HRO := Go.Lib.hid hr
    have HFF := Go.Lib.hid hF
    clear hfit hr hF
    by_cases hjn : j < n
    · obtain ⟨b, o, rfl, hI⟩ := HX.out (by omega)
      have hjX : j < X.length := by rw [HN.out]; exact hjn
      obtain ⟨o1, o2, o3, o4, o5⟩ := (hI.fresh HFF.out) j hjX
      have hj300 : j ≤ 300 := by
        by_cases h0 : j = 0
        · omega
        · have h1 := HFIT.out (j - 1) (by omega) (by omega)
          have h2 := h1.lo
          have h3 := h1.hi
          omega
      have hj300i : (j : Int) ≤ 300 := by omega
      have hwj : 0 < j → IntKind.i64.wrap ((j : Int) - 1) = (j : Int) - 1 := fun h => IntWalk.i64_in _ (by omega)
      have hprev : ∀ h : 0 < j, wr.cell? ⟨b, o + (j - 1) * 2, none⟩ = some (.int .i64 (X[j - 1]'(by omega)).1) := fun h => ((hI.fresh HFF.out) (j - 1) (by omega)).1
      have htk : X.take (j + 1) = X.take j ++ [X[j]] := List.take_succ_eq_append_getElem hjX
      have hfj : ∀ (a : 0 ≤ X[j].1) (b : X[j].1 ≤ 254) (c : X[j].1 ≠ 5) (d : 0 < X[j].2.2.length) (e : X[j].2.2.length ≤ 100) (f : ∀ h' : 0 < j, (X[j - 1]'(by omega)).1 < X[j].1), Fit X j hjX := by
        intro a b c d e f
        refine ⟨?_, b, c, d, e, f⟩
        by_cases h0 : j = 0
        · subst h0; exact a
        · have h1 := (HFIT.out (j - 1) (by omega) (by omega)).lo
          have h2 := f (by omega)
          omega
      have o6 := o3.1
      have HFJ := Go.Lib.hid hfj
      have HTK := Go.Lib.hid htk
      obtain ⟨x, hx⟩ : ∃ x, X[j] = x := ⟨_, rfl⟩
      have HXJ := Go.Lib.hid hx
      rw [hx] at o1 o2 o4 o5 o6
      clear hI o3 hfj htk hx
      obtain ⟨t, z, dl⟩ := x
      obtain ⟨Az, cz, hz⟩ := o6
      simp only at hz o1 o2 o4 o5
      subst hz
      obtain ⟨nz, hnz⟩ : ∃ nz, dl.length = nz := ⟨_, rfl⟩
      rw [hnz] at o2 HXJ
      have HNZ := Go.Lib.hid hnz
      clear hnz
      go_upto_region 5 with (fail)
      have hq0 := cell_of_row (wr.alloc (.cells #[.int .i64 t, .slice Az nz cz] 61)) wr.heap.size 0 _ _ _ (heap_alloc_new wr _)
      have hq1 := cell_of_row (wr.alloc (.cells #[.int .i64 t, .slice Az nz cz] 61)) wr.heap.size 1 _ _ _ (heap_alloc_new wr _)
      have hF2 : Fresh wr (wr.alloc (.cells #[.int .i64 t, .slice Az nz cz] 61)) := (Kept.refl wr (fun _ => False)).alloc _
      have hpv : ∀ h : 0 < j, (wr.alloc (.cells #[.int .i64 t, .slice Az nz cz] 61)).cell? ⟨b, o + (j - 1) * 2, none⟩ = some (.int .i64 (X[j - 1]'(by omega)).1) := fun h => hF2.held (hprev h) (fun h => h)
      have HPV := Go.Lib.hid hpv
      have HR2 := Go.Lib.hid (HRO.out.fresh hF2)
      have HF2 := Go.Lib.hid (HFF.out.fresh hF2)
      clear o1 o2 hprev hF2 hpv
      generalize wr.alloc (.cells #[.int .i64 t, .slice Az nz cz] 61) = w2 at *
      generalize wr.heap.size = q at *
      by_cases k1 : t < 0
      · skip
        have d1 : decide (t < 0) = true := by simpa using k1
        go_quiet (fail)
        go_wp2_with (fail)
        go_ret2
        exact ⟨.inl ⟨_, rfl⟩, HF2.out.drewN _⟩
      · skip
        by_cases k2 : t = 5
        · skip
          have d1 : decide (t < 0) = false := by simpa using k1
          have d2 : (t == 5) = true := by simpa using k2
          go_quiet (fail)
          go_wp2_with (fail)
          go_ret2
          exact ⟨.inl ⟨_, rfl⟩, HF2.out.drewN _⟩
        · skip
          by_cases k3 : 254 < t
          · skip
            have d1 : decide (t < 0) = false := by simpa using k1
            have d2 : (t == 5) = false := by simpa using k2
            have d3 : decide (254 < t) = true := by simpa using k3
            go_quiet (fail)
            go_wp2_with (fail)
            go_ret2
            exact ⟨.inl ⟨_, rfl⟩, HF2.out.drewN _⟩
          · skip
            by_cases k4 : 100 < nz
            · skip
              have d1 : decide (t < 0) = false := by simpa using k1
              have d2 : (t == 5) = false := by simpa using k2
              have d3 : decide (254 < t) = false := by simpa using k3
              have d4 : decide ((100 : Int) < (nz : Int)) = true := by simp; omega
              have d4n : decide (100 < nz) = true := by simpa using k4
              go_quiet (fail)
              go_wp2_with (fail)
              go_ret2
              exact ⟨.inl ⟨_, rfl⟩, HF2.out.drewN _⟩
            · skip
              by_cases k5 : nz = 0
              · skip
                have d1 : decide (t < 0) = false := by simpa using k1
                have d2 : (t == 5) = false := by simpa using k2
                have d3 : decide (254 < t) = false := by simpa using k3
                have d4 : decide ((100 : Int) < (nz : Int)) = false := by simp; omega
                have d4n : decide (100 < nz) = false := by simpa using k4
                have d5 : ((nz : Int) == 0) = true := by simp; omega
                have d5n : (nz == 0) = true := by simpa using k5
                go_quiet (fail)
                go_wp2_with (fail)
                go_ret2
                exact ⟨.inl ⟨_, rfl⟩, HF2.out.drewN _⟩
              · skip
                by_cases k6 : 0 < j
                · skip
                  have p1 := HPV.out k6
                  obtain ⟨s, hs⟩ : ∃ s, (X[j - 1]'(by omega)).1 = s := ⟨_, rfl⟩
                  rw [hs] at p1
                  have HS := Go.Lib.hid hs
                  clear hs
                  by_cases k7 : t ≤ s
                  · skip
                    have d1 : decide (t < 0) = false := by simpa using k1
                    have d2 : (t == 5) = false := by simpa using k2
                    have d3 : decide (254 < t) = false := by simpa using k3
                    have d4 : decide ((100 : Int) < (nz : Int)) = false := by simp; omega
                    have d4n : decide (100 < nz) = false := by simpa using k4
                    have d5 : ((nz : Int) == 0) = false := by simp; omega
                    have d5n : (nz == 0) = false := by simpa using k5
                    have d6 : decide ((0 : Int) < (j : Int)) = true := by simp; omega
                    have d6n : decide (0 < j) = true := by simpa using k6
                    have e1 : (1 : Int) ≤ (j : Int) := by omega
                    have e2 : (j : Int) - 1 < (n : Int) := by omega
                    have e3 : (0 : Int) ≤ (j : Int) - 1 := by omega
                    have e4 : ((j : Int) - 1).toNat = j - 1 := by omega
                    have e5 := hwj k6
                    have d7 : decide (t ≤ s) = true := by simpa using k7
                    go_quiet (fail)
                    go_wp2_with (fail)
                    go_ret2
                    exact ⟨.inl ⟨_, rfl⟩, HF2.out.drewN _⟩
                  · skip
                    have d1 : decide (t < 0) = false := by simpa using k1
                    have d2 : (t == 5) = false := by simpa using k2
                    have d3 : decide (254 < t) = false := by simpa using k3
                    have d4 : decide ((100 : Int) < (nz : Int)) = false := by simp; omega
                    have d4n : decide (100 < nz) = false := by simpa using k4
                    have d5 : ((nz : Int) == 0) = false := by simp; omega
                    have d5n : (nz == 0) = false := by simpa using k5
                    have d6 : decide ((0 : Int) < (j : Int)) = true := by simp; omega
                    have d6n : decide (0 < j) = true := by simpa using k6
                    have e1 : (1 : Int) ≤ (j : Int) := by omega
                    have e2 : (j : Int) - 1 < (n : Int) := by omega
                    have e3 : (0 : Int) ≤ (j : Int) - 1 := by omega
                    have e4 : ((j : Int) - 1).toNat = j - 1 := by omega
                    have e5 := hwj k6
                    have d7 : decide (t ≤ s) = false := by simpa using k7
                    go_quiet (fail)
                    have hqd : Fresh w2 (w2.drewN nq) := (Kept.refl w2 _).drewN nq
                    have HR3 := Go.Lib.hid (HR2.out.fresh hqd)
                    have HF3 := Go.Lib.hid (HF2.out.fresh hqd)
                    have hq0' := hqd.held hq0 (fun h => h)
                    have hq1' := hqd.held hq1 (fun h => h)
                    clear hqd hq0 hq1
                    generalize w2.drewN nq = w3 at *
                    go_upto_region 7 with (fail)
                    have HFT := Go.Lib.hid (HFJ.out (by rw [HXJ.out]; show (0 : Int) ≤ t; omega) (by rw [HXJ.out]; show t ≤ 254; omega) (by rw [HXJ.out]; exact k2) (by rw [HXJ.out]; show 0 < dl.length; have := HNZ.out; omega) (by rw [HXJ.out]; show dl.length ≤ 100; have := HNZ.out; omega) (fun h' => by rw [HXJ.out, HS.out]; show s < t; omega))
                    have hlj : ((X.take j).map asOpt).length = j := by simp; omega
                    have HLJ := Go.Lib.hid hlj
                    clear hlj
                    have ht : ((t.toNat : Nat) : Int) = t := by omega
                    have HT := Go.Lib.hid ht
                    clear ht
                    go_wp2_with (at_builtin; refine wpList_append_opt _ rfl (.tmp 54) (.tmp 60) 53 rfl 104 w.heap.size i1 (.agg #[.int .i64 0, .slice none 0 0]) 32 Try.underlying53 hi1 hy0 (by decide) hy1 hy2 u4 rfl ((X.take j).map asOpt) (HR3.out.fresh ((Kept.refl w3 (fun _ => False)).alloc _)) w3.heap.size 1 (t.toNat, .slice Az nz cz) rfl (by rw [HT.out]; exact cell_of_row _ _ 0 _ _ _ (heap_alloc_new w3 _)) (cell_of_row _ _ 1 _ _ _ (heap_alloc_new w3 _)) rfl (by rw [HLJ.out]; omega) (by decide) (by have := HF3.out.size; simp; omega) ?_; intro A5 c5 w5 hr5 hg5 hm5; rw [HLJ.out] at hr5 ⊢)
                    have hF5 : Fresh w w5 := (HF3.out.alloc _).trans (Kept.of_grown hg5) (fun x hx e => by have := (HR3.out.block x e).1; omega)
                    have HR5 := Go.Lib.hid hr5
                    have HF5 := Go.Lib.hid hF5
                    clear hr5 hg5 hm5 hF5
                    go_wp2_with (fail)
                    go_roundw
                    case rel =>
                      refine ⟨j + 1, hjn, by simp, ?_, fun i h hi => ?_, HF5.out⟩
                      · rw [HTK.out, List.map_append, HXJ.out]
                        exact HR5.out
                      · by_cases hij : i = j
                        · subst hij
                          exact HFT.out
                        · exact HFIT.out i h (by omega)
                    case measure => simp [intOf]; omega
                · skip
                  have d1 : decide (t < 0) = false := by simpa using k1
                  have d2 : (t == 5) = false := by simpa using k2
                  have d3 : decide (254 < t) = false := by simpa using k3
                  have d4 : decide ((100 : Int) < (nz : Int)) = false := by simp; omega
                  have d4n : decide (100 < nz) = false := by simpa using k4
                  have d5 : ((nz : Int) == 0) = false := by simp; omega
                  have d5n : (nz == 0) = false := by simpa using k5
                  have d6 : decide ((0 : Int) < (j : Int)) = false := by simp; omega
                  have d6n : decide (0 < j) = false := by simpa using k6
                  go_quiet (fail)
                  have hqd : Fresh w2 (w2.drewN nq) := (Kept.refl w2 _).drewN nq
                  have HR3 := Go.Lib.hid (HR2.out.fresh hqd)
                  have HF3 := Go.Lib.hid (HF2.out.fresh hqd)
                  have hq0' := hqd.held hq0 (fun h => h)
                  have hq1' := hqd.held hq1 (fun h => h)
                  clear hqd hq0 hq1
                  generalize w2.drewN nq = w3 at *
                  go_upto_region 7 with (fail)
                  have HFT := Go.Lib.hid (HFJ.out (by rw [HXJ.out]; show (0 : Int) ≤ t; omega) (by rw [HXJ.out]; show t ≤ 254; omega) (by rw [HXJ.out]; exact k2) (by rw [HXJ.out]; show 0 < dl.length; have := HNZ.out; omega) (by rw [HXJ.out]; show dl.length ≤ 100; have := HNZ.out; omega) (fun h' => absurd h' k6))
                  have hlj : ((X.take j).map asOpt).length = j := by simp; omega
                  have HLJ := Go.Lib.hid hlj
                  clear hlj
                  have ht : ((t.toNat : Nat) : Int) = t := by omega
                  have HT := Go.Lib.hid ht
                  clear ht
                  go_wp2_with (at_builtin; refine wpList_append_opt _ rfl (.tmp 54) (.tmp 60) 53 rfl 104 w.heap.size i1 (.agg #[.int .i64 0, .slice none 0 0]) 32 Try.underlying53 hi1 hy0 (by decide) hy1 hy2 u4 rfl ((X.take j).map asOpt) (HR3.out.fresh ((Kept.refl w3 (fun _ => False)).alloc _)) w3.heap.size 1 (t.toNat, .slice Az nz cz) rfl (by rw [HT.out]; exact cell_of_row _ _ 0 _ _ _ (heap_alloc_new w3 _)) (cell_of_row _ _ 1 _ _ _ (heap_alloc_new w3 _)) rfl (by rw [HLJ.out]; omega) (by decide) (by have := HF3.out.size; simp; omega) ?_; intro A5 c5 w5 hr5 hg5 hm5; rw [HLJ.out] at hr5 ⊢)
                  have hF5 : Fresh w w5 := (HF3.out.alloc _).trans (Kept.of_grown hg5) (fun x hx e => by have := (HR3.out.block x e).1; omega)
                  have HR5 := Go.Lib.hid hr5
                  have HF5 := Go.Lib.hid hF5
                  clear hr5 hg5 hm5 hF5
                  go_wp2_with (fail)
                  go_roundw
                  case rel =>
                    refine ⟨j + 1, hjn, by simp, ?_, fun i h hi => ?_, HF5.out⟩
                    · rw [HTK.out, List.map_append, HXJ.out]
                      exact HR5.out
                    · by_cases hij : i = j
                      · subst hij
                        exact HFT.out
                      · exact HFIT.out i h (by omega)
                  case measure => simp [intOf]; omega

    · obtain rfl : j = n := by omega
      have e1 : X.take j = X := by rw [← HN.out, List.take_length]
      rw [e1] at HRO
      by_cases h0 : 0 < j
      · have d0 : decide ((0 : Int) < (j : Int)) = true := by simp; omega
        have d0n : decide (0 < j) = true := by simpa using h0
        by_cases h10 : j ≤ 10
        · have d1 : decide ((j : Int) ≤ 10) = true := by simp; omega
          have d1n : decide (j ≤ 10) = true := by simpa using h10
          go_wp2
          go_ret2
          exact ⟨.inr ⟨by rw [HN.out]; exact h0, by rw [HN.out]; exact h10, fun i h => HFIT.out i h (by rw [← HN.out]; exact h), _, rfl, HRO.out⟩, HFF.out⟩
        · have d1 : decide ((j : Int) ≤ 10) = false := by simp; omega
          have d1n : decide (j ≤ 10) = false := by simpa using h10
          go_wp2
          go_ret2
          exact ⟨.inl ⟨_, rfl⟩, HFF.out⟩
      · have d0 : decide ((0 : Int) < (j : Int)) = false := by simp; omega
        have d0n : decide (0 < j) = false := by simpa using h0
        go_wp2
        go_ret2
        exact ⟨.inl ⟨_, rfl⟩, HFF.out⟩
end
end Go.Proofs.Ytahcaoenddapoaa
