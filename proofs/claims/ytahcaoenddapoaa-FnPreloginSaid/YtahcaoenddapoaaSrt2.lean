/- sort.insertionSort over a keySlice whose keys differ; sort.Sort. -/
import Derived.Test.YtahcaoenddapoaaSrt
import Derived.Test.YtahcaoenddapoaaQuiet
namespace Go.Proofs.Ytahcaoenddapoaa
open Go.RowKit

theorem methLen174 (x : Value) (W : World) : (method 389 174 x "Len").run Try.prog W = .ok (224, x) W := by kernel_rfl
theorem methLess174 (x : Value) (W : World) : (method 389 174 x "Less").run Try.prog W = .ok (225, x) W := by kernel_rfl
theorem methSwap174 (x : Value) (W : World) : (method 389 174 x "Swap").run Try.prog W = .ok (226, x) W := by kernel_rfl
theorem enter224 (args : Array Value) (W : World) : (callFunc 224 args).run Try.prog W = .ok (.enter 224 args) W := run_enter Try.func224 (by kernel_rfl) (by kernel_rfl) args W
theorem enter225 (args : Array Value) (W : World) : (callFunc 225 args).run Try.prog W = .ok (.enter 225 args) W := run_enter Try.func225 (by kernel_rfl) (by kernel_rfl) args W
theorem enter226 (args : Array Value) (W : World) : (callFunc 226 args).run Try.prog W = .ok (.enter 226 args) W := run_enter Try.func226 (by kernel_rfl) (by kernel_rfl) args W

theorem less_at {X Y : Int} (base g n c i j : Nat) (l : List Nat) (w : World) (hX : X = (i : Int)) (hY : Y = (j : Int)) (h : Row base w (.slice (some ⟨g, 0, none⟩) n c) l) (hi : i < l.length) (hj : j < l.length) :
    Calls Try.prog 225 #[.slice (some ⟨g, 0, none⟩) n c, .int .i64 X, .int .i64 Y] w fun e w' => e = .returned (.bool (decide (l[i] < l[j]))) ∧ ∃ q, w' = w.drewN q := by
  subst hX
  subst hY
  exact less_any base g n c i j l w h hi hj
theorem swap_at {X Y : Int} (base g n c i j : Nat) (l : List Nat) (w : World) (hX : X = (i : Int)) (hY : Y = (j : Int)) (h : Row base w (.slice (some ⟨g, 0, none⟩) n c) l) (hb : i < l.length ∧ j < l.length) (hij : i ≠ j) :
    Calls Try.prog 226 #[.slice (some ⟨g, 0, none⟩) n c, .int .i64 X, .int .i64 Y] w fun e w' => e = .returned (.tuple #[]) ∧ Row base w' (.slice (some ⟨g, 0, none⟩) n c) (swapAt l i j hb) ∧ Kept w w' (fun k => k = g) := by
  subst hX
  subst hY
  exact swap_any base g n c i j l w h hb hij

theorem nodup_get {l : List Nat} (h : l.Nodup) (a b : Nat) (ha : a < l.length) (hb : b < l.length) (hab : a ≠ b) : l[a] ≠ l[b] := by
  have h' := List.pairwise_iff_getElem.1 h
  rcases Nat.lt_or_gt_of_ne hab with h1 | h1
  · exact h' a b ha hb h1
  · exact fun e => h' b a hb ha h1 e.symm

set_option maxRecDepth 100000 in
set_option maxHeartbeats 2000000 in
theorem isort_any (base g n c : Nat) (l : List Nat) (w : World) (h : Row base w (.slice (some ⟨g, 0, none⟩) n c) l) (hd : l.Nodup) (h2 : 2 ≤ n) (hn : n ≤ 1000) :
    Calls Try.prog 179 #[.iface 174 (.slice (some ⟨g, 0, none⟩) n c), .int .i64 0, .int .i64 n] w fun e w' => e = .returned (.tuple #[]) ∧ ∃ l', l'.Perm l ∧ Upto id l' l'.length ∧ Row base w' (.slice (some ⟨g, 0, none⟩) n c) l' ∧ Kept w w' (fun k => k = g) := by
  have hl := h.len
  have HR := Go.Lib.hid h
  have HD := Go.Lib.hid hd
  have HL := Go.Lib.hid hl
  clear h hd hl
  have hls := methLess174
  have hsw := methSwap174
  have hen1 := enter225
  have hen2 := enter226
  go_enter Try.func179, Try.ntmps179
  go_wp2_with (fail)
  go_loopw [6] (fun i wr => ∃ (k : Nat) (m : List Nat), 1 ≤ k ∧ k ≤ n ∧ i = .int .i64 (k : Int) ∧ m.Perm l ∧ Upto id m k ∧ Row base wr (.slice (some ⟨g, 0, none⟩) n c) m ∧ Kept w wr (fun j => j = g)) (fun i _ => n - (intOf i).toNat)
  case atStart => exact ⟨1, l, by omega, by omega, rfl, List.Perm.refl _, fun a b _ _ hab hb => by omega, HR.out, Kept.refl _ _⟩
  case round =>
    obtain ⟨k, m, hk1, hkn, rfl, hp, hu, hr, hK⟩ := hrel
    have hml := hr.len
    have HP := Go.Lib.hid hp
    have HU := Go.Lib.hid hu
    have HRR := Go.Lib.hid hr
    have HK := Go.Lib.hid hK
    have HML := Go.Lib.hid hml
    clear hp hu hr hK hml
    by_cases hlt : k < n
    · have i1 : (k : Int) < (n : Int) := by omega
      go_wp2_with (fail)
      go_loopw [7] (fun j wq => ∃ (q : Nat) (m' : List Nat), j = .int .i64 (q : Int) ∧ m'.Perm l ∧ Down id m' k q ∧ Row base wq (.slice (some ⟨g, 0, none⟩) n c) m' ∧ Kept w wq (fun j => j = g)) (fun j _ => (intOf j).toNat)
      case atStart => exact ⟨k, m, rfl, HP.out, Down.start HU.out (by have := HML.out; omega), HRR.out, HK.out⟩
      case round =>
        obtain ⟨q, m', rfl, hp', hdw, hr', hK'⟩ := hrel
        have hml' := hr'.len
        have hji := hdw.ji
        have hne := fun a b ha hb hab => nodup_get (hp'.nodup_iff.2 HD.out) a b ha hb hab
        have HP' := Go.Lib.hid hp'
        have HDW := Go.Lib.hid hdw
        have HR' := Go.Lib.hid hr'
        have HK' := Go.Lib.hid hK'
        have HML' := Go.Lib.hid hml'
        have HNE := Go.Lib.hid hne
        clear hp' hdw hr' hK' hml' hne
        by_cases hq : q = 0
        · have HU2 := Go.Lib.hid (HDW.out.done (.inl hq) HNE.out)
          have hq0 : ¬ (0 : Int) < (q : Int) := by omega
          have hqn : ¬ 0 < q := by omega
          have hqd : decide (0 < q) = false := by simpa using hqn
          clear hq
          go_wp2
          all_goals exact ⟨⟨k + 1, m', by omega, by omega, by go_num, HP'.out, HU2.out, HR'.out, HK'.out⟩, by simp [intOf]; omega⟩
        · have hq0 : (0 : Int) < (q : Int) := by omega
          have hqn : 0 < q := by omega
          have hqd : decide (0 < q) = true := by simpa using hqn
          have hb : q < m'.length ∧ q - 1 < m'.length := by have := HML'.out; omega
          go_wp2_with (fail)
          refine (less_at base g n c q (q - 1) m' _ rfl (by omega) HR'.out hb.1 hb.2).mono ?_
          rintro e wx ⟨rfl, nq, rfl⟩
          have HRX := Go.Lib.hid (HR'.out.fresh ((Kept.refl _ (fun _ => False)).drewN nq))
          have HKX := Go.Lib.hid (HK'.out.drewN nq)
          by_cases hlt2 : m'[q]'hb.1 < m'[q - 1]'hb.2
          · have hdt : decide (m'[q]'hb.1 < m'[q - 1]'hb.2) = true := by simpa using hlt2
            rw [hdt]
            have HDN := Go.Lib.hid (HDW.out.next (by omega) hb hlt2)
            have HPN := Go.Lib.hid ((swapAt_perm m' q (q - 1) hb).trans HP'.out)
            generalize wr.drewN nq = wz at *
            clear hdt hlt2
            go_wp2_with (fail)
            refine (swap_at base g n c q (q - 1) m' _ rfl (by omega) HRX.out hb (by omega)).mono ?_
            rintro e wy ⟨rfl, hry, hky⟩
            have HRY := Go.Lib.hid hry
            have HKY := Go.Lib.hid (HKX.out.trans hky (fun _ _ h => h))
            clear hry hky
            go_wp2
            go_roundw
            case rel => exact ⟨q - 1, _, by congr 1; omega, HPN.out, HDN.out, HRY.out, HKY.out⟩
            case measure => simp [intOf]; omega
          · have hdt : decide (m'[q]'hb.1 < m'[q - 1]'hb.2) = false := by simpa using hlt2
            rw [hdt]
            have HU2 := Go.Lib.hid (HDW.out.done (.inr ⟨by omega, hlt2⟩) HNE.out)
            generalize wr.drewN nq = wz at *
            clear hdt hlt2
            go_wp2
            all_goals exact ⟨⟨k + 1, m', by omega, by omega, by go_num, HP'.out, HU2.out, HRX.out, HKX.out⟩, by simp [intOf]; omega⟩
    · obtain rfl : k = n := by omega
      go_wp2
      go_end0
      exact ⟨rfl, m, HP.out, by rw [← HML.out]; exact HU.out, HRR.out, HK.out⟩

theorem enter179 (args : Array Value) (W : World) : (callFunc 179 args).run Try.prog W = .ok (.enter 179 args) W := run_enter Try.func179 (by kernel_rfl) (by kernel_rfl) args W

set_option maxRecDepth 100000 in
set_option maxHeartbeats 2000000 in
theorem pdq_any (base g n c : Nat) (lim : Value) (l : List Nat) (w : World) (h : Row base w (.slice (some ⟨g, 0, none⟩) n c) l) (hd : l.Nodup) (h2 : 2 ≤ n) (hn : n ≤ 12) :
    Calls Try.prog 164 #[.iface 174 (.slice (some ⟨g, 0, none⟩) n c), .int .i64 0, .int .i64 n, lim] w fun e w' => e = .returned (.tuple #[]) ∧ ∃ l', l'.Perm l ∧ Upto id l' l'.length ∧ Row base w' (.slice (some ⟨g, 0, none⟩) n c) l' ∧ Kept w w' (fun k => k = g) := by
  have HR := Go.Lib.hid h
  have HD := Go.Lib.hid hd
  clear h hd
  have i1 : (n : Int) ≤ 12 := by omega
  go_enter Try.func164, Try.ntmps164
  go_wp2_with (fail)
  go_loopw [1, 2] (fun a b wr => a = .int .i64 0 ∧ b = .int .i64 n ∧ wr = w) (fun _ _ _ => 0)
  case atStart => exact ⟨rfl, rfl, rfl⟩
  case round =>
    obtain ⟨rfl, rfl, rfl⟩ := hrel
    go_wp2_with (fail)
    refine (isort_any base g n c l _ HR.out HD.out h2 (by omega)).mono ?_
    rintro e w1 ⟨rfl, l', p1, p2, p3, p4⟩
    have H1 := Go.Lib.hid p1
    have H2 := Go.Lib.hid p2
    have H3 := Go.Lib.hid p3
    have H4 := Go.Lib.hid p4
    clear p1 p2 p3 p4
    go_wp2
    refine bodyPost_ret (v := .tuple #[]) (by simp [results, Try.results164, go_sem]) rfl ⟨rfl, l', H1.out, H2.out, H3.out, H4.out⟩
end Go.Proofs.Ytahcaoenddapoaa
