/- The walks of package utf16's DecodeRune, decode, Decode, over units that stand for code points. -/
import Derived.Test.YtahcaoenddapoaaEnc
import Derived.WalkLawsBesides
namespace Go.Proofs.Ytahcaoenddapoaa
open Go.RowKit

theorem or_pair (h x : Int) (h0 : 0 ≤ h) (h1 : h < 1024) (x0 : 0 ≤ x) (x1 : x < 1024) : bits .or .i32 (h * 1024) x = h * 1024 + x := by
  obtain ⟨m, rfl⟩ := Int.eq_ofNat_of_zero_le h0
  obtain ⟨n, rfl⟩ := Int.eq_ofNat_of_zero_le x0
  have h2 := or_i32 n m 10 (by omega) (by omega)
  have e : ((2 ^ 10 * m : Nat) : Int) = (m : Int) * 1024 := by omega
  have e2 : ((2 ^ 10 * m + n : Nat) : Int) = (m : Int) * 1024 + n := by omega
  rw [e, e2] at h2
  exact h2

set_option maxRecDepth 100000 in
theorem decodeRune_any (x y R : Int) (hR : R = (x - 55296) * 1024 + (y - 56320) + 65536) (h1 : 55296 ≤ x) (h2 : x < 56320) (h3 : 56320 ≤ y) (h4 : y < 57344) (w : World) :
    Calls Try.prog 170 #[.int .i32 x, .int .i32 y] w fun e w' => e = .returned (.int .i32 R) ∧ w = w' := by
  have HR := Go.Lib.hid hR
  clear hR
  have HO := Go.Lib.hid (or_pair (x - 55296) (y - 56320) (by omega) (by omega) (by omega) (by omega))
  go_enter Try.func170, Try.ntmps170
  go_wp2
  all_goals first
    | (exfalso; omega)
    | (go_ret; exact ⟨by rw [HR.out, HO.out, IntWalk.wrap32_in _ (by omega)]; rfl, rfl⟩)

theorem one_bts (K : IntKind) (w : World) (x : Int) (r : Nat) (hx : x = (r : Int)) (T : TypeId) : BtsK K (w.alloc (.cells #[.int K x] T)) (.slice (some ⟨w.heap.size, 0, none⟩) 1 1) [r] := by
  subst hx
  refine ⟨some ⟨w.heap.size, 0, none⟩, 1, rfl, Nat.le_refl _, by decide, fun h => (by cases h), fun ad hA => ?_⟩
  cases hA
  refine ⟨w.heap.size, 0, rfl, by simp, fun j hj => ?_⟩
  have hj0 : j = 0 := by simpa using hj
  subst hj0
  exact cell_of_row _ _ 0 _ _ _ (heap_alloc_new _ _)

theorem info21 : (Try.prog.info? 21).map (fun i => (i.zero, i.size, i.bytes)) = some (some (.int .i32 0), 1, 4) := by kernel_rfl

theorem units_split (l : List Nat) (k : Nat) (hk : k < l.length) : units l = units (l.take k) ++ (u16 l[k] ++ units (l.drop (k + 1))) := by
  have h : units (l.drop k) = u16 l[k] ++ units (l.drop (k + 1)) := by
    rw [List.drop_eq_getElem_cons hk]
    unfold units
    rw [List.flatMap_cons]
  rw [← h, ← units_append, List.take_append_drop]

set_option maxRecDepth 100000 in
theorem decode_any (l : List Nat) (hl : l.length ≤ 4294967296) (hg : ∀ r ∈ l, good r) (A : Option Addr) (n c gb base base' : Nat) (w : World) (hu : RowK .u16 139 base w (.slice A n c) (units l))
    (hb : RowK .i32 21 base' w (.slice (some ⟨gb, 0, none⟩) 0 64) []) (hbase : base' ≤ w.heap.size) (hne : ∀ k, (Value.slice A n c).ownBlock = some k → k ≠ gb) :
    Calls Try.prog 139 #[.slice A n c, .slice (some ⟨gb, 0, none⟩) 0 64] w fun e w' => ∃ v, e = .returned v ∧ RowK .i32 21 base' w' v l ∧ Kept w w' (fun k => k = gb) := by
  obtain ⟨i0, hi, hz0, hz1, hz2⟩ := info_parts info21
  have hn := hu.len
  subst hn
  have HG := Go.Lib.hid hg
  have HN := Go.Lib.hid hne
  clear hg hne
  have hul := (units_length l).2
  go_enter Try.func139, Try.ntmps139
  go_wp2
  go_loopw [1, 5] (fun b i wr => ∃ k q : Nat, k ≤ l.length ∧ q = (units (l.take k)).length ∧ i = .int .i64 q ∧ RowK .i32 21 base' wr b (l.take k) ∧ Kept w wr (fun k => k = gb) ∧ Moved w (.slice (some ⟨gb, 0, none⟩) 0 64) b) (fun _ i _ => (units l).length - (intOf i).toNat)
  case atStart => exact ⟨0, 0, by omega, rfl, rfl, hb, Kept.refl _ _, Moved.refl _ _⟩
  case round =>
    obtain ⟨k, q, hk, hq, rfl, hrk, hKk, hMk⟩ := hrel
    by_cases hlt : k < l.length
    · have hsp := units_split l k hlt
      have hut := units_take_succ l k hlt
      have huk := hu.kept hKk (fun k hk e => HN.out k hk e)
      have hgk := HG.out l[k] (List.getElem_mem hlt)
      unfold good at hgk
      have hsz := hKk.size
      have hlk : (l.take k).length = k := by rw [List.length_take]; omega
      obtain ⟨bA, bc, hbv⟩ := hrk.slice
      rw [hlk] at hbv
      subst hbv
      by_cases hbig : (65536 : Int) ≤ (l[k] : Nat)
      · rw [u16_two hbig] at hsp hut
        have hqU : q + 1 < (units l).length := by rw [hsp]; simp [hq]
        obtain ⟨g, rfl, hbg, hgs⟩ := huk.form (by omega)
        have hcell := huk.cellAt q (by omega)
        have hcell1 := huk.cellAt (q + 1) hqU
        have e1 : (units l)[q]'(by omega) = 0xd800 + (l[k] - 0x10000) / 1024 := by
          have : (units l)[q]? = some (0xd800 + (l[k] - 0x10000) / 1024) := by rw [hsp, List.getElem?_append_right (by omega), hq]; simp
          rw [List.getElem?_eq_getElem (by omega)] at this
          injection this
        have e2 : (units l)[q + 1] = 0xdc00 + (l[k] - 0x10000) % 1024 := by
          have : (units l)[q + 1]? = some (0xdc00 + (l[k] - 0x10000) % 1024) := by rw [hsp, List.getElem?_append_right (by omega), hq]; simp
          rw [List.getElem?_eq_getElem hqU] at this
          injection this
        rw [e1] at hcell
        rw [e2] at hcell1
        have HU := Go.Lib.hid (congrArg List.length hut)
        have HQ := Go.Lib.hid hq
        have HK := Go.Lib.hid hlk
        obtain ⟨R, hR⟩ : ∃ R : Int, R = ((l[k] : Nat) : Int) := ⟨_, rfl⟩
        obtain ⟨X, hX⟩ : ∃ X : Int, X = ((0xd800 + (l[k] - 0x10000) / 1024 : Nat) : Int) := ⟨_, rfl⟩
        obtain ⟨Y, hY⟩ : ∃ Y : Int, Y = ((0xdc00 + (l[k] - 0x10000) % 1024 : Nat) : Int) := ⟨_, rfl⟩
        rw [← hX] at hcell
        rw [← hY] at hcell1
        have hX0 : 55296 ≤ X := by omega
        have hX1 : X < 56320 := by omega
        have hY0 : 56320 ≤ Y := by omega
        have hY1 : Y < 57344 := by omega
        have hRR : R = (X - 55296) * 1024 + (Y - 56320) + 65536 := by omega
        have hR0 : 65536 ≤ R := by omega
        have hR1 : R ≤ 1114111 := by omega
        have ho := one_bts .i32 wr R l[k] hR 21
        have HRR := Go.Lib.hid hRR
        clear e1 e2 hsp hut hq hlk hX hY hR hRR hgk hbig
        have hq1 : q + 1 < (units l).length := hqU
        have hd1 : decide ((q : Int) + 1 < ((units l).length : Nat)) = true := by simp; omega
        go_wp2_with (first
          | (go_at_call 170; refine (decodeRune_any X Y R HRR.out hX0 hX1 hY0 hY1 _).mono ?_; rintro e w2 ⟨rfl, rfl⟩)
          | (at_builtin; refine wpList_append_btsK _ rfl (.tmp 66) (.tmp 68) 140 140 rfl .i32 21 4 base' i0 Try.underlying140 Try.underlying140 hi hz0 hz1 hz2 (.slice bA k bc) (.slice (some ⟨wr.heap.size, 0, none⟩) 1 1) rfl rfl (l.take k) [l[k]] (hrk.fresh ((Kept.refl wr _).alloc _)) ho (by rw [HK.out]; simp; omega) (by rw [HK.out]; simp; omega) (by simp; omega) ?_; intro A' c' w1 hr1 hg1 hm1))
        go_wp2
        go_roundw
        case rel =>
          have hr2 : RowK .i32 21 base' w1 (.slice A' (k + 1) c') (l.take (k + 1)) := by
            have e : (l.take k).length + [l[k]].length = k + 1 := by rw [HK.out]; rfl
            rw [e] at hr1
            rw [List.take_succ_eq_append_getElem hlt]
            exact hr1
          have hFr : Fresh wr (wr.alloc (.cells #[.int .i32 R] 21)) := (Kept.refl wr _).alloc _
          refine ⟨k + 1, q + 1 + 1, by omega, ?_, by go_num, hr2, ?_, ?_⟩
          · have h1 := HU.out
            rw [List.length_append] at h1
            rw [h1, ← HQ.out]; rfl
          · refine (hKk.fresh hFr).trans (Kept.of_grown hg1) (fun b hb e => ?_)
            rcases hMk b e with h | h
            · simp [Value.ownBlock] at h; exact h.symm
            · omega
          · refine hMk.trans (b := wr) (fun b hb => ?_) hsz
            have hm2 := hm1 b (by rw [show (l.take k).length + [l[k]].length = k + 1 from by rw [HK.out]; rfl]; exact hb)
            rcases hm2 with h | h
            · exact .inl h
            · simp at h; exact .inr (by omega)
        case measure => simp [intOf]; omega
      · rw [u16_one (by omega)] at hsp hut
        have hqU : q < (units l).length := by rw [hsp]; simp [hq]
        obtain ⟨g, rfl, hbg, hgs⟩ := huk.form (by omega)
        have hcell := huk.cellAt q hqU
        have e1 : (units l)[q] = l[k] := by
          have : (units l)[q]? = some l[k] := by rw [hsp, List.getElem?_append_right (by omega), hq]; simp
          rw [List.getElem?_eq_getElem hqU] at this
          injection this
        rw [e1] at hcell
        have HU := Go.Lib.hid (congrArg List.length hut)
        have HQ := Go.Lib.hid hq
        have HK := Go.Lib.hid hlk
        obtain ⟨X, hX⟩ : ∃ X : Int, X = ((l[k] : Nat) : Int) := ⟨_, rfl⟩
        rw [← hX] at hcell hbig
        have hX0 : 0 ≤ X := by omega
        have hX1 : X < 55296 ∨ 57344 ≤ X := by omega
        have hX2 : X < 65536 := by omega
        have HX := Go.Lib.hid hX
        clear e1 hsp hut hq hlk hX hgk hbig
        have ho := one_bts .i32 wr X l[k] HX.out 21
        rcases hX1 with hX1 | hX1
        all_goals
          go_wp2_with (at_builtin; refine wpList_append_btsK _ rfl (.tmp 66) (.tmp 68) 140 140 rfl .i32 21 4 base' i0 Try.underlying140 Try.underlying140 hi hz0 hz1 hz2 (.slice bA k bc) (.slice (some ⟨wr.heap.size, 0, none⟩) 1 1) rfl rfl (l.take k) [l[k]] (hrk.fresh ((Kept.refl wr _).alloc _)) ho (by rw [HK.out]; simp; omega) (by rw [HK.out]; simp; omega) (by simp; omega) ?_; intro A' c' w1 hr1 hg1 hm1)
          go_wp2
          go_roundw
          case rel =>
            have hr2 : RowK .i32 21 base' w1 (.slice A' (k + 1) c') (l.take (k + 1)) := by
              have e : (l.take k).length + [l[k]].length = k + 1 := by rw [HK.out]; rfl
              rw [e] at hr1
              rw [List.take_succ_eq_append_getElem hlt]
              exact hr1
            have hFr : Fresh wr (wr.alloc (.cells #[.int .i32 X] 21)) := (Kept.refl wr _).alloc _
            refine ⟨k + 1, q + 1, by omega, ?_, by go_num, hr2, ?_, ?_⟩
            · have h1 := HU.out
              rw [List.length_append] at h1
              rw [h1, ← HQ.out]; rfl
            · refine (hKk.fresh hFr).trans (Kept.of_grown hg1) (fun b hb e => ?_)
              rcases hMk b e with h | h
              · simp [Value.ownBlock] at h; exact h.symm
              · omega
            · refine hMk.trans (b := wr) (fun b hb => ?_) hsz
              have hm2 := hm1 b (by rw [show (l.take k).length + [l[k]].length = k + 1 from by rw [HK.out]; rfl]; exact hb)
              rcases hm2 with h | h
              · exact .inl h
              · simp at h; exact .inr (by omega)
          case measure => simp [intOf]; omega
    · obtain rfl : k = l.length := by omega
      have hqe : q = (units l).length := by rw [hq, List.take_of_length_le (Nat.le_refl _)]
      have hge : ¬ q < (units l).length := by omega
      clear hq hqe
      go_wp2
      go_ret
      refine ⟨_, rfl, ?_, hKk⟩
      rw [List.take_of_length_le (Nat.le_refl _)] at hrk
      exact hrk
end Go.Proofs.Ytahcaoenddapoaa
