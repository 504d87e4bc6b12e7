/- The walks of package utf16's RuneLen, EncodeRune, Encode, and of str2ucs2. -/
import Derived.Test.YthmopakaikhjlaaGreatDoorMangled
namespace Go.Proofs.YthmopakaikhjlaaGreatDoor
open Go.RowKit

set_option maxRecDepth 100000 in
theorem runeLen_one (x : Int) (h0 : 0 ≤ x) (h : x < 55296 ∨ 57344 ≤ x) (h2 : x < 65536) (w : World) :
    Calls Tryz.prog 62 #[.int .i32 x] w fun e w' => e = .returned (.int .i64 1) ∧ w = w' := by
  rcases h with h | h
  · go_enter Tryz.func62, Tryz.ntmps62
    go_wp2
    go_ret
    exact ⟨rfl, rfl⟩
  · go_enter Tryz.func62, Tryz.ntmps62
    go_wp2
    all_goals first
      | (exfalso; omega)
      | (go_ret; exact ⟨rfl, rfl⟩)
set_option maxRecDepth 100000 in
theorem runeLen_two (x : Int) (h : 65536 ≤ x) (h2 : x ≤ 1114111) (w : World) :
    Calls Tryz.prog 62 #[.int .i32 x] w fun e w' => e = .returned (.int .i64 2) ∧ w = w' := by
  go_enter Tryz.func62, Tryz.ntmps62
  go_wp2
  all_goals first
    | (exfalso; omega)
    | (go_ret; exact ⟨rfl, rfl⟩)
set_option maxRecDepth 100000 in
theorem encodeRune_any (x : Int) (h : 65536 ≤ x) (h2 : x ≤ 1114111) (w : World) :
    Calls Tryz.prog 63 #[.int .i32 x] w fun e w' => e = .returned (.tuple #[.int .i32 (55296 + (x - 65536) / 1024), .int .i32 (56320 + (x - 65536) % 1024)]) ∧ w = w' := by
  have e1 := and_1023 ((x - 65536) / 1024) (by omega) (by omega)
  have e2 := and_1023 (x - 65536) (by omega) (by omega)
  have e3 : (x - 65536) / 1024 % 1024 = (x - 65536) / 1024 := by omega
  have HA := Go.Lib.hid e1
  have HB := Go.Lib.hid e2
  have HC := Go.Lib.hid e3
  clear e1 e2 e3
  go_enter Tryz.func63, Tryz.ntmps63
  go_wp2
  all_goals first
    | (exfalso; omega)
    | (go_ret2
       refine ⟨?_, rfl⟩
       rw [HA.out, HB.out, HC.out, IntWalk.wrap32_in _ (by omega), IntWalk.wrap32_in _ (by omega)]
       rfl)

theorem info91 : (Tryz.prog.info? 91).map (fun i => (i.zero, i.size, i.bytes)) = some (some (.int .u16 0), 1, 2) := by kernel_rfl

theorem units_take_succ (l : List Nat) (k : Nat) (hk : k < l.length) : units (l.take (k + 1)) = units (l.take k) ++ u16 l[k] := by
  rw [List.take_succ_eq_append_getElem hk, units_append]
  simp [units]
theorem units_take_le (l : List Nat) (k : Nat) : (units (l.take k)).length ≤ (units l).length := by
  have h : units l = units (l.take k) ++ units (l.drop k) := by rw [← units_append, List.take_append_drop]
  rw [h, List.length_append]
  omega
theorem u16_one {r : Nat} (h : (r : Int) < 65536) : u16 r = [r] := by unfold u16; rw [if_pos (by omega)]
theorem u16_two {r : Nat} (h : (65536 : Int) ≤ r) : u16 r = [0xd800 + (r - 0x10000) / 1024, 0xdc00 + (r - 0x10000) % 1024] := by unfold u16; rw [if_neg (by omega)]

theorem set_fill (A : List Nat) (n q x : Nat) (hq : q = A.length) (h : q < n) : (A ++ List.replicate (n - q) 0).set q x = (A ++ [x]) ++ List.replicate (n - (q + 1)) 0 := by
  subst hq
  rw [List.set_append_right _ _ (Nat.le_refl _), Nat.sub_self, List.append_assoc]
  congr 1
  obtain ⟨d, hd⟩ : ∃ d, n - A.length = d + 1 := ⟨n - A.length - 1, by omega⟩
  rw [hd, List.replicate_succ, List.set_cons_zero, show n - (A.length + 1) = d by omega]
  rfl

set_option maxRecDepth 100000 in
theorem encode_any (b : Nat) (c : Nat) (l : List Nat) (hl : l.length ≤ 4294967296) (hg : ∀ r ∈ l, good r) (w : World) (hc : ∀ j (h : j < l.length), w.cell? ⟨b, j, none⟩ = some (.int .i32 ((l[j] : Nat) : Int))) :
    Calls Tryz.prog 54 #[.slice (some ⟨b, 0, none⟩) l.length c] w fun e w' => ∃ v, e = .returned v ∧ RowK .u16 91 w.heap.size w' v (units l) ∧ Fresh w w' := by
  obtain ⟨i0, hi, hz0, hz1, hz2⟩ := info_parts info91
  have HG := Go.Lib.hid hg
  have HC := Go.Lib.hid hc
  clear hg hc
  go_enter Tryz.func54, Tryz.ntmps54
  go_wp2
  go_loop [3, 15] (fun n i => ∃ k m : Nat, k ≤ l.length ∧ i = .int .i64 k ∧ n = .int .i64 m ∧ m + k = l.length + (units (l.take k)).length ∧ k ≤ (units (l.take k)).length ∧ (units (l.take k)).length ≤ 2 * k) (fun _ i => l.length - (intOf i).toNat)
  case atStart => exact ⟨0, l.length, by omega, rfl, rfl, by simp [units], by omega, by simp [units]⟩
  case round =>
    obtain ⟨k, m, hk, rfl, rfl, hm, hm1, hm2⟩ := hrel
    by_cases hlt : k < l.length
    · have hck := HC.out k hlt
      have hgk := HG.out l[k] (List.getElem_mem hlt)
      unfold good at hgk
      have hmb : m ≤ 12884901888 := by omega
      have hu := units_take_succ l k hlt
      by_cases hbig : (65536 : Int) ≤ (l[k] : Nat)
      · rw [u16_two hbig] at hu
        have HU := Go.Lib.hid (congrArg List.length hu)
        clear hu
        have HM := Go.Lib.hid hm
        clear hm
        go_wp2
        go_round
        case rel =>
          have h1 := HU.out
          have h2 := HM.out
          simp only [List.length_append, List.length_cons, List.length_nil] at h1
          exact ⟨k + 1, m + 1, by omega, by go_num, by go_num, by omega, by omega, by omega⟩
        case measure => simp [intOf]; omega
      · rw [u16_one (by omega)] at hu
        have HU := Go.Lib.hid (congrArg List.length hu)
        clear hu
        have HM := Go.Lib.hid hm
        clear hm
        go_wp2
        go_round
        case rel =>
          have h1 := HU.out
          have h2 := HM.out
          simp only [List.length_append, List.length_cons, List.length_nil] at h1
          exact ⟨k + 1, m, by omega, by go_num, by go_num, by omega, by omega, by omega⟩
        case measure => simp [intOf]; omega
    · obtain rfl : k = l.length := by omega
      have hmu : m = (units l).length := by
        rw [List.take_of_length_le (Nat.le_refl _)] at hm
        omega
      have hub := (units_length l).2
      rw [← hmu] at hub
      have HU := Go.Lib.hid hmu
      clear hmu hm hm1 hm2
      go_wp2_with (at_make; refine wpList_make_full _ rfl _ _ 88 rfl w.heap.size 91 i0 (.int .u16 0) 1 Tryz.underlying88 hi hz0 hz1 .i64 .i64 _ _ m rfl rfl rfl rfl (by rw [hz2]; omega) (by unfold maxLen; omega) (Nat.le_refl _) ?_; intro w1 hown hgr)
      have hF1 : Fresh w w1 := (Kept.of_grown hgr).mono (fun _ _ h => by cases h)
      have hr1 : RowK .u16 91 w.heap.size w1 (.slice (some ⟨w.heap.size, 0, none⟩) m m) (List.replicate m 0) :=
        RowK.of_own hown (by rw [Nat.mul_one]; show (madeCells #[.int .u16 0] m).toList = _; rw [toList_madeCells_one]; simp [ints]) rfl
      clear hown hgr
      go_wp2
      go_loopw [3, 28] (fun n i wr => ∃ k q : Nat, k ≤ l.length ∧ i = .int .i64 k ∧ n = .int .i64 q ∧ q = (units (l.take k)).length ∧ RowK .u16 91 w.heap.size wr (.slice (some ⟨w.heap.size, 0, none⟩) m m) (units (l.take k) ++ List.replicate (m - q) 0) ∧ Fresh w wr) (fun _ i _ => l.length - (intOf i).toNat)
      case atStart => exact ⟨0, 0, by omega, rfl, rfl, rfl, by simpa [units] using hr1, hF1⟩
      case round =>
        obtain ⟨k, q, hk, rfl, rfl, hq, hrk, hFk⟩ := hrel
        by_cases hlt : k < l.length
        · have hck := (hFk.held (HC.out k hlt) (fun h => h))
          have hgk := HG.out l[k] (List.getElem_mem hlt)
          unfold good at hgk
          have hu := units_take_succ l k hlt
          have hul := units_take_le l (k + 1)
          rw [← HU.out] at hul
          have hcell := hrk.cellAt
          have hfr := hrk.frozenAt
          have hll : (units (l.take k) ++ List.replicate (m - q) 0).length = m := by
            have := units_take_le l k
            rw [← HU.out] at this
            rw [List.length_append, List.length_replicate]; omega
          by_cases hbig : (65536 : Int) ≤ (l[k] : Nat)
          · rw [u16_two hbig] at hu
            have hqm : q + 1 < m := by rw [hu, List.length_append] at hul; simp at hul; omega
            obtain ⟨zz, hcq⟩ : ∃ z : Int, wr.cell? ⟨w.heap.size, q, none⟩ = some (.int .u16 z) := ⟨_, hcell q (by omega)⟩
            have hfq := hfr q
            obtain ⟨zy, hcq1⟩ : ∃ z : Int, wr.cell? ⟨w.heap.size, q + 1, none⟩ = some (.int .u16 z) := ⟨_, hcell (q + 1) (by omega)⟩
            have hfq1 := hfr (q + 1)
            have hs := set_fill (units (l.take k)) m q (0xd800 + (l[k] - 0x10000) / 1024) hq (by omega)
            have hs2 := set_fill (units (l.take k) ++ [0xd800 + (l[k] - 0x10000) / 1024]) m (q + 1) (0xdc00 + (l[k] - 0x10000) % 1024) (by simp [hq]) hqm
            have hr2 := (hrk.stored q (0xd800 + (l[k] - 0x10000) / 1024)).stored (q + 1) (0xdc00 + (l[k] - 0x10000) % 1024)
            have hu2 : units (l.take k) ++ [0xd800 + (l[k] - 0x10000) / 1024] ++ [0xdc00 + (l[k] - 0x10000) % 1024] = units (l.take (k + 1)) := by rw [hu, List.append_assoc]; rfl
            rw [hs, hs2, hu2] at hr2
            clear hu2
            have e1 : ((0xd800 + (l[k] - 0x10000) / 1024 : Nat) : Int) = 55296 + ((l[k] : Nat) - 65536) / 1024 := by omega
            have e2 : ((0xdc00 + (l[k] - 0x10000) % 1024 : Nat) : Int) = 56320 + ((l[k] : Nat) - 65536) % 1024 := by omega
            rw [e1, e2] at hr2
            have HQ := Go.Lib.hid hq
            have HUU := Go.Lib.hid (congrArg List.length hu)
            have HF2 : Fresh w ((wr.setCell ⟨w.heap.size, q, none⟩ (.int .u16 (55296 + ((l[k] : Nat) - 65536) / 1024))).setCell ⟨w.heap.size, q + 1, none⟩ (.int .u16 (56320 + ((l[k] : Nat) - 65536) % 1024))) := (hFk.setCell (.inr (Nat.le_refl _)) _).setCell (.inr (Nat.le_refl _)) _
            clear hs hs2 hq hu hul hcell hfr hll e1 e2
            go_wp2_with (fail)
            refine (runeLen_two _ (by omega) (by omega) _).mono ?_
            rintro e w2 ⟨rfl, rfl⟩
            go_wp2_with (fail)
            refine (encodeRune_any _ (by omega) (by omega) _).mono ?_
            rintro e w2 ⟨rfl, rfl⟩
            go_wp2
            go_roundw
            case rel =>
              refine ⟨k + 1, q + 1 + 1, by omega, by go_num, by go_num, ?_, hr2, HF2⟩
              rw [HUU.out, List.length_append, ← HQ.out]; rfl
            case measure => simp [intOf]; omega
          · rw [u16_one (by omega)] at hu
            have hqm : q < m := by rw [hu, List.length_append] at hul; simp at hul; omega
            obtain ⟨zz, hcq⟩ : ∃ z : Int, wr.cell? ⟨w.heap.size, q, none⟩ = some (.int .u16 z) := ⟨_, hcell q (by omega)⟩
            have hfq := hfr q
            have hs := set_fill (units (l.take k)) m q l[k] hq hqm
            have HS := Go.Lib.hid hs
            have HQ := Go.Lib.hid hq
            have HUU := Go.Lib.hid hu
            clear hs hq hu hul hcell hfr hll
            go_wp2_with (fail)
            refine (runeLen_one _ (by omega) (by omega) (by omega) _).mono ?_
            rintro e w2 ⟨rfl, rfl⟩
            go_wp2
            go_roundw
            case rel =>
              have e1 : (units (l.take (k + 1))) = units (l.take k) ++ [l[k]] := HUU.out
              refine ⟨k + 1, q + 1, by omega, by go_num, by go_num, ?_, ?_, hFk.setCell (.inr (Nat.le_refl _)) _⟩
              · rw [e1, List.length_append, ← HQ.out]; rfl
              · rw [e1, ← HS.out]
                exact hrk.stored q _
            case measure => simp [intOf]; omega
        · obtain rfl : k = l.length := by omega
          have hqm : q = m := by
            rw [hq, List.take_of_length_le (Nat.le_refl _), HU.out]
          subst hqm
          clear hq
          go_wp2
          go_ret
          refine ⟨_, rfl, ?_, hFk⟩
          have e2 : units (l.take l.length) ++ List.replicate (q - q) 0 = units l := by simp
          rw [e2] at hrk
          exact hrk
end Go.Proofs.YthmopakaikhjlaaGreatDoor
