/- spec.Prelogin: the payload of the reference. -/
import Derived.Test.YtahcaoenddapoaaFmp
import Derived.Test.YtahcaoenddapoaaQuiet
namespace Go.Proofs.Ytahcaoenddapoaa
open Go.RowKit

/-- Five bytes that have been laid. -/
theorem five_new (w : World) (a b c d e : Nat) (T : TypeId) : Bts (w.alloc (.cells #[.int .u8 (a : Int), .int .u8 (b : Int), .int .u8 (c : Int), .int .u8 (d : Int), .int .u8 (e : Int)] T)) (.slice (some ⟨w.heap.size, 0, none⟩) 5 5) [a, b, c, d, e] := by
  refine ⟨_, 5, rfl, Nat.le_refl _, by decide, fun h => (by cases h), fun ad hA => ?_⟩
  cases hA
  refine ⟨_, 0, rfl, by simp, fun j hj => ?_⟩
  rw [cell_of_row _ _ _ _ _ (0, 0) (heap_alloc_new _ _)]
  match j, hj with
  | 0, _ => rfl
  | 1, _ => rfl
  | 2, _ => rfl
  | 3, _ => rfl
  | 4, _ => rfl
  | j + 5, hj => exact absurd hj (by simp)

set_option maxRecDepth 100000 in
set_option maxHeartbeats 1000000 in
theorem specPrelogin_any (b o c : Nat) (D : Nat → List Nat) (ks : List Nat) (hf : Fine D ks) (n : Nat) (hn : ks.length = n) (w : World) (hO : Opts w b o ks D) :
    Calls Try.prog 29 #[.slice (some ⟨b, o, none⟩) n c] w fun e w' => ∃ v, e = .returned v ∧ Bts w' v (pre D ks) ∧ Fresh w w' := by
  obtain ⟨i0, hi, hz0, hz1, hz2⟩ := info_parts info5
  have HF := Go.Lib.hid hf
  have HOP := Go.Lib.hid hO
  have HN := Go.Lib.hid hn
  have i1 : (n : Int) ≤ 10 := by have := hf.n1; omega
  clear hf hO hn
  go_enter Try.func29, Try.ntmps29
  go_wp2_with (fail)
  go_loopw [10, 3, 4] (fun i out dat wr => ∃ j : Nat, j ≤ n ∧ i = .int .i64 (j : Int) ∧ Row w.heap.size wr out (tabs D (5 * n + 1) (ks.take j)) ∧ Row w.heap.size wr dat ((ks.take j).flatMap D) ∧ (∀ x, out.ownBlock = some x → dat.ownBlock ≠ some x) ∧ Fresh w wr) (fun i _ _ _ => n - (intOf i).toNat)
  case atStart => exact ⟨0, Nat.zero_le _, rfl, RowK.nil _ _, RowK.nil _ _, (fun x h => by cases h), Kept.refl _ _⟩
  case round =>
    obtain ⟨j, hj, rfl, hr1, hr2, hne, hF⟩ := hrel
    have hfl := flat_le D (ks.take j) 100 (fun k hk => HF.out.l1 k (List.mem_of_mem_take hk))
    rw [List.length_take] at hfl
    obtain ⟨fl, hfl2⟩ : ∃ fl, ((ks.take j).flatMap D).length = fl := ⟨_, rfl⟩
    rw [hfl2] at hfl
    have hfl3 : fl ≤ 1000 := by omega
    obtain ⟨A2, c2, rfl⟩ := hr2.slice
    rw [hfl2] at hr2
    rw [hfl2] at hne
    rw [hfl2]
    have HFL := Go.Lib.hid hfl2
    have HR1 := Go.Lib.hid hr1
    have HR2 := Go.Lib.hid hr2
    have HNE := Go.Lib.hid hne
    have HFF := Go.Lib.hid hF
    clear hr1 hr2 hne hF hfl hfl2
    by_cases hjn : j < n
    · have hjk : j < ks.length := by rw [HN.out]; exact hjn
      obtain ⟨o1, z, o2, o3⟩ := (HOP.out.fresh HFF.out) j hjk
      obtain ⟨o1', z', o2', o3'⟩ := HOP.out j hjk
      have hzz : z' = z := by have h := HFF.out.held o2' (fun h => h); rw [o2] at h; injection h with h; exact h.symm
      have hob : ∀ x, z.ownBlock = some x → x < w.heap.size := by rw [← hzz]; exact o3'.block
      clear o1' o2' o3' hzz
      have hmem := List.getElem_mem hjk
      have hk1 := HF.out.lt _ hmem
      have htk : ks.take (j + 1) = ks.take j ++ [ks[j]] := List.take_succ_eq_append_getElem hjk
      have hdl := HF.out.l1 _ hmem
      have htl : (tabs D (5 * n + 1) (ks.take j)).length = 5 * j := by rw [tabs_length, List.length_take]; congr 1; omega
      have HTL := Go.Lib.hid htl
      have HTK := Go.Lib.hid htk
      clear htk hmem htl
      obtain ⟨dk, hdk⟩ : ∃ dk, D ks[j] = dk := ⟨_, rfl⟩
      have HDK := Go.Lib.hid hdk
      rw [hdk] at o3 hdl
      clear hdk
      generalize ks[j] = k at *
      obtain ⟨A, cz, rfl, hcz⟩ := o3.slice
      have HB := Go.Lib.hid o3
      obtain ⟨nz, hnz⟩ : ∃ nz, dk.length = nz := ⟨_, rfl⟩
      rw [hnz] at o2 hcz HB hdl hob
      have HNZ := Go.Lib.hid hnz
      clear hnz o3
      go_upto_region 5 with (fail)
      have hF2 : Fresh wr (wr.alloc (.cells #[.int .i64 (k : Int), .slice A nz cz] 104)) := (Kept.refl wr (fun _ => False)).alloc _
      have hq0 := cell_of_row (wr.alloc (.cells #[.int .i64 (k : Int), .slice A nz cz] 104)) wr.heap.size 0 _ _ _ (heap_alloc_new wr _)
      have hq1 := cell_of_row (wr.alloc (.cells #[.int .i64 (k : Int), .slice A nz cz] 104)) wr.heap.size 1 _ _ _ (heap_alloc_new wr _)
      have HR3 := Go.Lib.hid (HR1.out.fresh hF2)
      have HR4 := Go.Lib.hid (HR2.out.fresh hF2)
      have HB4 := Go.Lib.hid (HB.out.fresh hF2)
      have HF4 := Go.Lib.hid (HFF.out.fresh hF2)
      have hqs : wr.heap.size < (wr.alloc (.cells #[.int .i64 (k : Int), .slice A nz cz] 104)).heap.size := by simp
      have hwq := HFF.out.size
      have hlo := HR1.out.block
      have hld := HR2.out.block
      have HLO := Go.Lib.hid (And.intro hlo hld)
      have HOB := Go.Lib.hid hob
      clear hF2 o1 o2 HR1 HR2 HB HFF hlo hld
      generalize wr.alloc (.cells #[.int .i64 (k : Int), .slice A nz cz] 104) = w2 at *
      generalize wr.heap.size = q at *
      obtain ⟨at', hat⟩ : ∃ x, 5 * n + 1 + fl = x := ⟨_, rfl⟩
      have HAT := Go.Lib.hid hat
      have hat2 : (5 : Int) * (n : Int) + 1 + (fl : Int) = (at' : Int) := by omega
      have hat3 : (at' : Int) ≤ 2000 := by omega
      have hfi : (fl : Int) ≤ 1000 := by omega
      have hni : (n : Int) ≤ 10 := by omega
      have hki : (k : Int) < 255 := by omega
      have hzi : (nz : Int) ≤ 100 := by omega
      clear hat
      go_wp2_with (at_builtin; refine wpList_append_bts _ rfl (.tmp 21) (.tmp 39) 24 24 rfl w.heap.size i0 Try.underlying24 Try.underlying24 hi hz0 hz1 hz2 u3 (.slice (some ⟨w2.heap.size, 0, none⟩) 5 5) rfl rfl (tabs D (5 * n + 1) (ks.take j)) [k, at' / 256 % 256, at' % 256, nz / 256 % 256, nz % 256] (HR3.out.fresh ((Kept.refl w2 (fun _ => False)).alloc _)) ?r2 ?r3 ?r4 ?_)
      case r2 =>
        have e1 : at' / 256 % 256 = at' / 256 := by omega
        have e2 : nz / 256 % 256 = nz / 256 := by omega
        have e3 : nz % 256 = nz := by omega
        rw [e1, e2, e3]
        have h := five_new w2 k (at' / 256) (at' % 256) (nz / 256) nz 5
        simp only [Int.natCast_ediv, Int.natCast_emod] at h
        exact h
      case r3 => rw [HTL.out]; simp; omega
      case r4 => simp; omega
      intro A5 c5 w5 hr5 hg5 hm5
      have htl5 : (tabs D (5 * n + 1) (ks.take j)).length + 5 = 5 * j + 5 := by rw [HTL.out]
      rw [htl5] at hr5 hm5 ⊢
      have hFa : Fresh w2 (w2.alloc (.cells #[.int .u8 (k : Int), .int .u8 ((at' : Int) / 256), .int .u8 ((at' : Int) % 256), .int .u8 ((nz : Int) / 256), .int .u8 (nz : Int)] 5)) := (Kept.refl w2 (fun _ => False)).alloc _
      have hKg := Kept.of_grown hg5
      have hK5 : Kept w2 w5 (fun x => u3.ownBlock = some x) := (hFa.mono (fun _ _ h => h.elim)).trans hKg (fun _ _ h => h)
      have hnq : ¬ u3.ownBlock = some q := fun e => by have := (HLO.out.1 q e).2; omega
      have h0 := hK5.held hq0 hnq
      have h1 := hK5.held hq1 hnq
      have hr6 : Row w.heap.size w5 (.slice A2 fl c2) ((ks.take j).flatMap D) := HR4.out.kept hK5 (fun x hx e => HNE.out x e hx)
      have hb6 : Bts w5 (.slice A nz cz) dk := HB4.out.kept hK5 (fun x hx e => by
        have h1 := (HLO.out.1 x e).1
        have h2 := HOB.out x hx
        omega)
      have hF5 : Fresh w w5 := HF4.out.trans hK5 (fun x hx e => by have := (HLO.out.1 x e).1; omega)
      have hs5 := hK5.size
      have hne5 : ∀ x, (Value.slice A5 (5 * j + 5) c5).ownBlock = some x → (Value.slice A2 fl c2).ownBlock ≠ some x := fun x hx e => by
        rcases hm5 x hx with h | h
        · exact HNE.out x h e
        · have h2 := (HLO.out.2 x e).2
          have h3 : w2.heap.size < (w2.alloc (.cells #[.int .u8 (k : Int), .int .u8 ((at' : Int) / 256), .int .u8 ((at' : Int) % 256), .int .u8 ((nz : Int) / 256), .int .u8 (nz : Int)] 5)).heap.size := by simp
          omega
      have HR5 := Go.Lib.hid hr5
      have HR6 := Go.Lib.hid hr6
      have HB6 := Go.Lib.hid hb6
      have HF5 := Go.Lib.hid hF5
      have HNE5 := Go.Lib.hid hne5
      have hlo5 := hr5.block
      have HLO5 := Go.Lib.hid hlo5
      clear hr5 hg5 hm5 htl5 hFa hKg hK5 hnq hr6 hb6 hF5 hne5 hq0 hq1 hlo5
      go_wp2_with (at_builtin; refine wpList_append_bts _ rfl (.tmp 41) (.tmp 43) 24 24 rfl w.heap.size i0 Try.underlying24 Try.underlying24 hi hz0 hz1 hz2 (.slice A2 fl c2) (.slice A nz cz) rfl rfl ((ks.take j).flatMap D) dk HR6.out HB6.out (by rw [HFL.out, HNZ.out]; omega) HF5.out.size ?_; intro A7 c7 w7 hr7 hg7 hm7; rw [HFL.out, HNZ.out] at hr7 hm7 ⊢)
      have HFN := Go.Lib.hid (And.intro HFL.out HNZ.out)
      have hKg7 : Kept w5 w7 (fun x => (Value.slice A2 fl c2).ownBlock = some x) := Kept.of_grown hg7
      have hr8 : Row w.heap.size w7 (.slice A5 (5 * j + 5) c5) (tabs D (5 * n + 1) (ks.take j) ++ [k, at' / 256 % 256, at' % 256, nz / 256 % 256, nz % 256]) := HR5.out.kept hKg7 (fun x hx e => HNE5.out x hx e)
      have hF7 : Fresh w w7 := HF5.out.trans hKg7 (fun x hx e => by have := (HLO.out.2 x e).1; omega)
      have hne7 : ∀ x, (Value.slice A5 (5 * j + 5) c5).ownBlock = some x → (Value.slice A7 (fl + nz) c7).ownBlock ≠ some x := fun x hx e => by
        rcases hm7 x e with h | h
        · exact HNE5.out x hx h
        · have := (HLO5.out x hx).2; omega
      have HR7 := Go.Lib.hid hr7
      have HR8 := Go.Lib.hid hr8
      have HF7 := Go.Lib.hid hF7
      have HNE7 := Go.Lib.hid hne7
      clear hr7 hr8 hF7 hne7 hg7 hm7 hKg7
      go_wp2_with (fail)
      go_roundw
      case rel =>
        refine ⟨j + 1, hjn, by simp, ?_, ?_, HNE7.out, HF7.out⟩
        · rw [HTK.out, tabs_snoc, HFL.out, HAT.out, HDK.out, HNZ.out]
          exact HR8.out
        · rw [HTK.out, List.flatMap_append]
          simpa [HDK.out] using HR7.out
      case measure => simp [intOf]; omega
    · obtain rfl : j = n := by omega
      have htk : ks.take j = ks := by rw [← HN.out, List.take_length]
      rw [htk] at HR1 HR2 HFL
      have htl : (tabs D (5 * j + 1) ks).length = 5 * j := by rw [tabs_length, HN.out]
      have HTL := Go.Lib.hid htl
      clear htk htl
      go_wp2_with (first | (at_builtin; refine wpList_append_bts _ rfl (.tmp 46) (.tmp 47) 24 24 rfl w.heap.size i0 Try.underlying24 Try.underlying24 hi hz0 hz1 hz2 u3 (.slice (some ⟨wr.heap.size, 0, none⟩) 1 1) rfl rfl (tabs D (5 * j + 1) ks) [255] (HR1.out.fresh ((Kept.refl wr (fun _ => False)).alloc _)) (byte_new wr _ 255 rfl 5) (by rw [HTL.out]; simp; omega) (by have := HFF.out.size; simp; omega) ?_; intro A5 c5 w5 hr5 hg5 hm5; rw [HTL.out] at hr5 hm5 ⊢) | (with_reducible refine stop_call (c := _) rfl ?_))
      have hKg := Kept.of_grown hg5
      have hFa : Fresh wr (wr.alloc (.cells #[.int .u8 255] 5)) := (Kept.refl wr (fun _ => False)).alloc _
      have hK5 : Kept wr w5 (fun x => u3.ownBlock = some x) := (hFa.mono (fun _ _ h => h.elim)).trans hKg (fun _ _ h => h)
      have hr6 : Row w.heap.size w5 (.slice A2 fl c2) (ks.flatMap D) := HR2.out.kept hK5 (fun x hx e => HNE.out x e hx)
      have hF5 : Fresh w w5 := HFF.out.trans hK5 (fun x hx e => by have := (HR1.out.block x e).1; omega)
      have HR5 := Go.Lib.hid hr5
      have HR6 := Go.Lib.hid hr6
      have HF5 := Go.Lib.hid hF5
      clear hKg hFa hK5 hr5 hr6 hF5 hg5 hm5
      unfold Stop
      refine wpList_append_bts _ rfl (.tmp 48) (.tmp 49) 24 24 rfl w.heap.size i0 Try.underlying24 Try.underlying24 hi hz0 hz1 hz2 (.slice A5 (5 * j + [255].length) c5) (.slice A2 fl c2) rfl rfl (tabs D (5 * j + 1) ks ++ [255]) (ks.flatMap D) HR5.out HR6.out.bts (by rw [List.length_append, HTL.out, HFL.out]; simp; omega) HF5.out.size ?_
      intro A7 c7 w7 hr7 hg7 hm7
      obtain ⟨N7, hN7⟩ : ∃ N, (tabs D (5 * j + 1) ks ++ [255]).length + (ks.flatMap D).length = N := ⟨_, rfl⟩
      rw [hN7] at hr7 hm7 ⊢
      clear hN7
      have hF7 : Fresh w w7 := HF5.out.trans (Kept.of_grown hg7) (fun x hx e => by have := (HR5.out.block x e).1; omega)
      have HR7 := Go.Lib.hid hr7
      have HF7 := Go.Lib.hid hF7
      clear hr7 hF7 hg7 hm7
      go_wp2
      go_ret
      exact ⟨_, rfl, by unfold pre; rw [HN.out]; exact HR7.out.bts, HF7.out⟩
end Go.Proofs.Ytahcaoenddapoaa
