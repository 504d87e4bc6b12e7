/- spec.whole: a decimal number's bytes, the lowest first. -/
import Derived.Test.YthmopakaikhjlaaGreatDoorPpc
namespace Go.Proofs.YthmopakaikhjlaaGreatDoor
open Go.RowKit

theorem dv_take (ds : List Nat) (i : Nat) (h : i < ds.length) : dv (ds.take (i + 1)) = dv (ds.take i) * 10 + ds[i] := by
  rw [List.take_succ_eq_append_getElem h]
  unfold dv
  rw [List.foldl_append]
  rfl

/-- One byte of ten times a number and a carry. -/
theorem ten_step (V u c r : Nat) (done : List Nat) (h : leB V (done.length + (r + 1)) = done ++ leB (u * 10 + c) (r + 1)) :
    leB V (done.length + (r + 1)) = (done ++ [(u % 256 * 10 + c) % 256]) ++ leB (u / 256 * 10 + (u % 256 * 10 + c) / 256) r := by
  rw [h, leB_cons, List.append_assoc]
  congr 1
  rw [List.singleton_append, show (u * 10 + c) % 256 = (u % 256 * 10 + c) % 256 by omega, show (u * 10 + c) / 256 = u / 256 * 10 + (u % 256 * 10 + c) / 256 by omega]

set_option maxRecDepth 100000 in
set_option maxHeartbeats 2000000 in
theorem whole_any (s : ByteArray) (ds : List Nat) (N : Nat) (hN : N ≤ 16) (hs : s = strOf (dtx ds)) (hd : ∀ d ∈ ds, d ≤ 9) (hl : ds.length ≤ 100) (w : World) :
    Calls Tryz.prog 39 #[.string s, .int .i64 (N : Int)] w fun e w' => ∃ v, e = .returned v ∧ Bts w' v (leB (dv ds) N) ∧ Fresh w w' := by
  obtain ⟨i0, hi, hz0, hz1, hz2⟩ := info_parts info5
  have hsz : s.size = ds.length := by rw [hs, strOf_size]; simp
  have hget : ∀ i (h : i < s.size) (h' : i < ds.length), s[i].toNat = ds[i] + 48 := by
    intro i h h'
    subst hs
    rw [strOf_get (dtx ds) i h (by simpa using h')]
    have := hd _ (List.getElem_mem h')
    simp only [List.getElem_map]
    omega
  have HS := Go.Lib.hid (And.intro hsz hget)
  have HD := Go.Lib.hid hd
  have hs100 : s.size ≤ 100 := by omega
  have i1 : (N : Int) ≤ 16 := by omega
  clear hs hd hsz hget
  go_enter Tryz.func39, Tryz.ntmps39
  go_upto_region 2 with (at_make; refine wpList_make_full _ rfl _ _ 28 rfl w.heap.size 5 i0 (.int .u8 0) 1 Tryz.underlying28 hi hz0 hz1 .i64 .i64 _ _ N rfl rfl rfl rfl (by rw [hz2]; omega) (by unfold maxLen; omega) (Nat.le_refl _) ?_; intro w1 hown hgr)
  have hcs : (madeCells (Value.int .u8 0).cells (N * 1)).toList = ints .u8 (List.replicate N 0) := by
    rw [Nat.mul_one, show (Value.int .u8 0).cells = #[.int .u8 0] from rfl, toList_madeCells_one]
    simp [ints]
  have hr1 : Row w.heap.size w1 (.slice (some ⟨w.heap.size, 0, none⟩) N N) (List.replicate N 0) := RowK.of_own hown hcs (by simp)
  have hF1 : Kept w w1 (fun k => k = w.heap.size) := (Kept.of_grown hgr).mono (fun _ _ h => by cases h)
  obtain ⟨g, hg⟩ : ∃ g, w.heap.size = g := ⟨_, rfl⟩
  rw [hg] at hr1 hF1 ⊢
  have HR := Go.Lib.hid hr1
  have HF := Go.Lib.hid hF1
  clear hown hgr hcs hr1 hF1 hz0 hz1 hz2 hi
  have i2 : (s.size : Int) ≤ 100 := by omega
  go_wp2_with (fail)
  go_loopw [14] (fun i wr => ∃ k : Nat, k ≤ s.size ∧ i = .int .i64 (k : Int) ∧ Row g wr (.slice (some ⟨g, 0, none⟩) N N) (leB (dv (ds.take k)) N) ∧ Kept w wr (fun k => k = g)) (fun i _ => s.size - (intOf i).toNat)
  case atStart => exact ⟨0, Nat.zero_le _, rfl, by rw [List.take_zero, show dv [] = 0 from rfl, leB_zero]; exact HR.out, HF.out⟩
  case round =>
    obtain ⟨k, hk, rfl, hrow, hK⟩ := hrel
    have H0 := Go.Lib.hid (And.intro hrow hK)
    clear hrow hK
    by_cases hks : k < s.size
    · have hkd : k < ds.length := by rw [← HS.out.1]; exact hks
      have hb := HS.out.2 k hks hkd
      have hd9 := HD.out _ (List.getElem_mem hkd)
      have hdt := dv_take ds k hkd
      obtain ⟨d, hdd⟩ : ∃ d, ds[k] = d := ⟨_, rfl⟩
      rw [hdd] at hb hd9 hdt
      have HDT := Go.Lib.hid hdt
      have j1 : (k : Int) < (s.size : Int) := by omega
      have j2 : ((s[k].toNat : Nat) : Int) = (d : Int) + 48 := by omega
      have j3 : IntKind.u8.wrap ((d : Int) + 48 - 48) = (d : Int) := by rw [IntKind.wrap_u8]; omega
      have j4 : (d : Int) ≤ 9 := by omega
      clear hb hdt hdd
      go_wp2_with (fail)
      obtain ⟨V0, hV0⟩ : ∃ V0, dv (ds.take k) = V0 := ⟨_, rfl⟩
      obtain ⟨V, hV⟩ : ∃ V, V0 * 10 + d = V := ⟨_, rfl⟩
      rw [hV0] at H0 HDT
      rw [hV] at HDT
      have HV := Go.Lib.hid hV
      clear hV hV0
      go_loopw [24, 7] (fun jj cc wq => ∃ (j c u : Nat) (done : List Nat), j ≤ N ∧ jj = .int .i64 (j : Int) ∧ cc = .int .i64 (c : Int) ∧ c ≤ 9 ∧ done.length = j ∧ Row g wq (.slice (some ⟨g, 0, none⟩) N N) (done ++ leB u (N - j)) ∧ leB V N = done ++ leB (u * 10 + c) (N - j) ∧ Kept w wq (fun k => k = g)) (fun jj _ _ => N - (intOf jj).toNat)
      case atStart => exact ⟨0, d, V0, [], Nat.zero_le _, rfl, rfl, hd9, rfl, by simpa using H0.out.1, by rw [HV.out]; simp, H0.out.2⟩
      case round =>
        obtain ⟨j, c, u, done, hj, rfl, rfl, hc, hdl, hrow, hval, hK⟩ := hrel
        by_cases hjN : j < N
        · obtain ⟨r, hr⟩ : ∃ r, N - j = r + 1 := ⟨N - j - 1, by omega⟩
          rw [hr, leB_cons] at hrow
          have hlen : j < (done ++ u % 256 :: leB (u / 256) r).length := by simp; omega
          have hcl := hrow.cellAt j hlen
          have hfz := hrow.frozenAt j
          have hat : (done ++ u % 256 :: leB (u / 256) r)[j] = u % 256 := by
            rw [List.getElem_append_right (by omega)]
            simp [hdl]
          rw [hat] at hcl
          obtain ⟨x, hx⟩ : ∃ x, u % 256 = x := ⟨_, rfl⟩
          have hx256 : x < 256 := by omega
          have HX := Go.Lib.hid hx
          rw [hx] at hcl
          have H1 := Go.Lib.hid (And.intro hdl (And.intro hrow (And.intro hval (And.intro hK hr))))
          have k1 : (j : Int) < (N : Int) := by omega
          have k2 : (x : Int) < 256 := by omega
          have k3 : (c : Int) ≤ 9 := by omega
          clear hdl hrow hval hK hr hlen hat hx
          go_wp2_with (fail)
          go_roundw
          case rel =>
            have hst := H1.out.2.1.stored j ((x * 10 + c) % 256)
            have hset : (done ++ u % 256 :: leB (u / 256) r).set j ((x * 10 + c) % 256) = (done ++ [(x * 10 + c) % 256]) ++ leB (u / 256) (N - (j + 1)) := by
              rw [← H1.out.1, List.set_append_right _ _ (Nat.le_refl _), Nat.sub_self, List.set_cons_zero, List.append_assoc, List.singleton_append, show N - (done.length + 1) = r by have h1 := H1.out.1; have h2 := H1.out.2.2.2.2; omega]
            rw [hset] at hst
            have hNr : N = done.length + (r + 1) := by have h1 := H1.out.1; have h2 := H1.out.2.2.2.2; omega
            have hten := ten_step V u c r done (by rw [← hNr, ← H1.out.2.2.2.2]; exact H1.out.2.2.1)
            rw [← hNr, HX.out] at hten
            refine ⟨j + 1, (x * 10 + c) / 256, u / 256, done ++ [(x * 10 + c) % 256], hjN, by simp, by simp, by omega, by simp [H1.out.1], by simpa using hst, ?_, H1.out.2.2.2.1.setCell (p := ⟨g, j, none⟩) (.inl rfl) _⟩
            rw [show N - (j + 1) = r by have h2 := H1.out.2.2.2.2; omega]
            exact hten
          case measure => simp [intOf]; omega
        · have hjN' : j = N := by omega
          subst hjN'
          rw [Nat.sub_self] at hrow hval
          have hrow2 : Row g wr (.slice (some ⟨g, 0, none⟩) j j) (leB V j) := by rw [hval]; exact hrow
          have H1 := Go.Lib.hid (And.intro hrow2 hK)
          clear hdl hrow hval hK hrow2
          go_wp2_with (fail)
          go_roundw
          case rel => exact ⟨k + 1, hks, by simp, by rw [HDT.out]; exact H1.out.1, H1.out.2⟩
          case measure => simp [intOf]; omega
    · have hks' : k = s.size := by omega
      have hall : ds.take k = ds := List.take_of_length_le (by have := HS.out.1; omega)
      rw [hall] at H0
      have HF2 := Go.Lib.hid (H0.out.2.mono (S := fun k => False) (fun k hk e => by omega))
      clear hall
      go_wp2_with (fail)
      go_ret
      exact ⟨_, rfl, H0.out.1.bts, HF2.out⟩
end Go.Proofs.YthmopakaikhjlaaGreatDoor
