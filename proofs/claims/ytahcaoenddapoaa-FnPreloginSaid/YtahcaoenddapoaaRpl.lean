/- readPrelogin, ZZReadPrelogin. -/
import Derived.Test.YtahcaoenddapoaaPre
import Derived.Test.YtahcaoenddapoaaMp
import Derived.Test.YtahcaoenddapoaaRpo
import Derived.Test.YtahcaoenddapoaaUnpk
namespace Go.Proofs.Ytahcaoenddapoaa
open Go.RowKit

/-- Options that are compared: growing tokens (none the trace's), each with some data. -/
structure Fine (D : Nat → List Nat) (ks : List Nat) : Prop where
  up : ks.Pairwise (· < ·)
  lt : ∀ k ∈ ks, k < 255
  ne : ∀ k ∈ ks, k ≠ 5
  l0 : ∀ k ∈ ks, 0 < (D k).length
  l1 : ∀ k ∈ ks, (D k).length ≤ 100
  n1 : ks.length ≤ 10

theorem Fine.flat {D : Nat → List Nat} {ks : List Nat} (h : Fine D ks) : (ks.flatMap D).length ≤ 1000 := by
  have := flat_le D ks 100 h.l1
  have := h.n1
  omega
theorem Fine.off {D : Nat → List Nat} {ks : List Nat} (h : Fine D ks) (j : Nat) : offOf D ks j ≤ 1051 := by
  have h1 := flat_le D (ks.take j) 100 (fun k hk => h.l1 k (List.mem_of_mem_take hk))
  have h2 := h.n1
  rw [List.length_take] at h1
  unfold offOf
  omega

/-- What has been read: the map's keys are ks, its slices read the data. -/
def Red (w' : World) (lo : Nat) (M : List (Nat × Value)) (D : Nat → List Nat) (ks : List Nat) : Prop :=
  M.map Prod.fst = ks ∧ ∀ k z, M.lookup k = some z → Bts w' z (D k) ∧ ∀ j, z.ownBlock = some j → lo ≤ j

theorem lookup_none_of {M : List (Nat × Value)} {k : Nat} (h : k ∉ M.map Prod.fst) : M.lookup k = none := by
  cases e : M.lookup k with
  | none => rfl
  | some z => exact absurd (mem_of_lookup M k (by rw [e]; rfl)) h

set_option maxRecDepth 100000 in
set_option maxHeartbeats 400000 in
theorem readPrelogin_any (D : Nat → List Nat) (ks : List Nat) (hf : Fine D ks) (base g hb bb o n rpos rsize rtyp : Nat) (fin : Bool) (L D0 : List Nat) (w : World) (hI : In w base g hb bb 32767 o n rpos rsize fin rtyp L D0) (hS : Str 32767 4 false D0 (pre D ks)) (hn : n ≤ 100000) (hpn : 32767 < n) :
    Calls Try.prog 97 #[.pointer (some ⟨g, 0, none⟩)] w fun e w' => ∃ mb M, e = .returned (.tuple #[.map (some mb), .nilIface]) ∧ MapIs Try.prog 5 w' mb M ∧ Red w' w.heap.size M D ks ∧ w.heap.size ≤ mb ∧ Kept w w' (InS g hb bb) := by
  have hmm := @run_makeMap Try.prog
  have hpl := pre_length D ks
  have hfl := hf.flat
  have hf1 := hf.n1
  have HF := Go.Lib.hid hf
  clear hf
  go_enter Try.func97, Try.ntmps97
  go_wp2_with (fail)
  refine (beginRead_any base g hb bb 32767 o n rpos rsize rtyp 4 fin L D0 (pre D ks) _ hI hS (by omega) (by omega) (by omega)).mono ?_
  rintro e w2 ⟨rfl, hR, K2⟩
  obtain ⟨l1, l2, l3, b1, b2, b3⟩ := hR.lts
  have HR := Go.Lib.hid hR
  have HK2 := Go.Lib.hid K2
  clear hR K2 hI hS
  go_wp2_with (fail)
  refine (readAll_any base g hb bb 32767 o n 4 (pre D ks) _ HR.out (by omega) (by omega) (by omega) (by omega) l1 l2 l3).mono ?_
  rintro e w3 ⟨v3, rfl, hr3, K3⟩
  have hK3 : Kept w w3 (InS g hb bb) := HK2.out.trans K3 (fun _ _ h => h)
  have hlo := HK2.out.size
  obtain ⟨A, c, rfl⟩ := hr3.slice
  obtain ⟨b, rfl, hb1, hb2⟩ := hr3.form (by omega)
  have hroom := hr3.bts.room
  have hdat := pre_data D ks
  have hend := pre_end D ks
  have hat := pre_at D ks
  have hend2 : (pre D ks)[5 * ks.length]? = some 255 := by obtain ⟨h1, h2⟩ := hend; rw [List.getElem?_eq_getElem h1, h2]
  obtain ⟨P, hP⟩ : ∃ P, pre D ks = P := ⟨_, rfl⟩
  rw [hP] at hr3 hpl hroom hdat hat hend2 ⊢
  obtain ⟨N, hN⟩ : ∃ N, P.length = N := ⟨_, rfl⟩
  rw [hN] at hr3 hpl hroom ⊢
  have HNN := Go.Lib.hid hN
  have HR3 := Go.Lib.hid hr3
  have HK3 := Go.Lib.hid hK3
  have HDAT := Go.Lib.hid hdat
  have HAT := Go.Lib.hid hat
  have HEND := Go.Lib.hid hend2
  have HRM := Go.Lib.hid hroom
  have i1 : (N : Int) ≤ 2000 := by omega
  have i2 : ¬ N = 0 := by omega
  have i3 : N ≤ 2000 := by omega
  have i5 : ((N : Int) == 0) = false := by simp; omega
  have i6 : (N == 0) = false := by simp; omega
  have i4 : 5 * ks.length < N := by omega
  clear hpl hfl
  clear hdat hat hend hend2 hN hr3 hK3 HK2 HR K3 hroom hP
  go_wp2_with (fail)
  have hmap := MapIs.new Try.prog 5 w3
  have hF0 : Fresh w3 (w3.alloc (.map #[] 0)) := (Kept.refl w3 (fun _ => False)).alloc _
  have HMAP := Go.Lib.hid hmap
  have HF0 := Go.Lib.hid hF0
  clear hmap hF0
  generalize hmb : w3.heap.size = mb at *
  have HMB := Go.Lib.hid hmb
  clear hmb
  go_loopw [7] (fun off wr => ∃ (j q : Nat) (M : List (Nat × Value)), j ≤ ks.length ∧ off = .int .i64 (q : Int) ∧ q = 5 * j ∧ MapIs Try.prog 5 wr mb M ∧ M.map Prod.fst = ks.take j ∧ (∀ k z, M.lookup k = some z → Bts w3 z (D k) ∧ z.ownBlock = some b) ∧ Fresh w3 wr) (fun off _ => N - (intOf off).toNat)
  case atStart => exact ⟨0, 0, [], Nat.zero_le _, rfl, by simp, HMAP.out, by simp, (fun _ _ h => by cases h), HF0.out⟩
  case round =>
    obtain ⟨j, q, M, hj, rfl, hq, hm, hmk, hmd, hF⟩ := hrel
    have HM := Go.Lib.hid hm
    have HMK := Go.Lib.hid hmk
    have HMD := Go.Lib.hid hmd
    have HFF := Go.Lib.hid hF
    have hrow := HR3.out.fresh hF
    have hcell : ∀ i x, P[i]? = some x → wr.cell? ⟨b, i, none⟩ = some (.int .u8 ((x : Nat) : Int)) := by
      intro i x hx
      obtain ⟨h1, h2⟩ := List.getElem?_eq_some_iff.1 hx
      have h3 := hrow.cellAt i h1
      rw [h2] at h3
      exact h3
    have HC := Go.Lib.hid hcell
    have HBT := Go.Lib.hid hrow.bts
    clear hm hmk hmd hF hrow hcell
    by_cases hjn : j < ks.length
    · obtain ⟨a0, a1, a2, a3, a4, a5⟩ := HAT.out j hjn
      obtain ⟨d1, d2⟩ := HDAT.out j hjn
      have ho := HF.out.off j
      have hmem := List.getElem_mem hjn
      have hk1 := HF.out.lt _ hmem
      have hk2 := HF.out.ne _ hmem
      have hl0 := HF.out.l0 _ hmem
      have hl1 := HF.out.l1 _ hmem
      have htk : ks.take (j + 1) = ks.take j ++ [ks[j]] := List.take_succ_eq_append_getElem hjn
      have hnotin : ks[j] ∉ ks.take j := by
        intro hin
        have h1 := HF.out.up
        have h2 := split_at ks j hjn
        rw [h2, List.pairwise_append] at h1
        have h3 := h1.2.2 _ hin ks[j] (List.mem_cons_self ..)
        exact Nat.lt_irrefl _ h3
      have hnoM : M.lookup ks[j] = none := lookup_none_of (by rw [HMK.out]; exact hnotin)
      have HTK := Go.Lib.hid htk
      have HNO := Go.Lib.hid hnoM
      have hMl : M.length ≤ 10 := by
        have h1 := congrArg List.length HMK.out
        rw [List.length_map, List.length_take] at h1
        omega
      clear htk hnoM hnotin hmem
      generalize offOf D ks j = off at *
      have hdk : ∃ dk, D ks[j] = dk := ⟨_, rfl⟩
      obtain ⟨dk, hdk⟩ := hdk
      have HDK := Go.Lib.hid hdk
      rw [hdk] at a3 a4 d1 d2 hl0 hl1
      clear hdk
      generalize ks[j] = k at *
      obtain ⟨ln, hln⟩ : ∃ ln, dk.length = ln := ⟨_, rfl⟩
      rw [hln] at a3 a4 d1 d2 hl0 hl1
      have HLN := Go.Lib.hid hln
      have HD1 := Go.Lib.hid d1
      rw [HNN.out] at d2 a5
      clear hln d1
      have e1 : off / 256 % 256 * 256 + off % 256 = off := by omega
      have e2 : ln / 256 % 256 * 256 + ln % 256 = ln := by omega
      have b1 : off / 256 % 256 < 256 := Nat.mod_lt _ (by decide)
      have b2 : off % 256 < 256 := Nat.mod_lt _ (by decide)
      have b3 : ln / 256 % 256 < 256 := Nat.mod_lt _ (by decide)
      have b4 : ln % 256 < 256 := Nat.mod_lt _ (by decide)
      generalize off / 256 % 256 = x1 at *
      generalize off % 256 = x2 at *
      generalize ln / 256 % 256 = x3 at *
      generalize ln % 256 = x4 at *
      have HB := Go.Lib.hid (And.intro b1 (And.intro b2 (And.intro b3 b4)))
      have HE := Go.Lib.hid (And.intro e1 e2)
      clear b1 b2 b3 b4 e1 e2
      have HA := Go.Lib.hid (And.intro a0 (And.intro a1 (And.intro a2 (And.intro a3 a4))))
      clear a0 a1 a2 a3 a4
      have HQ := Go.Lib.hid hq
      have hq5 : q + 5 < N := by omega
      clear hq
      go_wp2_with (fail)
      refine (optOne_any b 0 N c q k x1 x2 x3 x4 _ HRM.out hq5 (by omega) hk1 ?_ ?_ ?_ ?_ ?_ HB.out.1 HB.out.2.1 HB.out.2.2.1 HB.out.2.2.2).mono ?_
      · rw [Nat.zero_add, HQ.out]; exact HC.out _ _ HA.out.1
      · rw [Nat.zero_add, HQ.out]; exact HC.out _ _ HA.out.2.1
      · rw [Nat.zero_add, HQ.out]; exact HC.out _ _ HA.out.2.2.1
      · rw [Nat.zero_add, HQ.out]; exact HC.out _ _ HA.out.2.2.2.1
      · rw [Nat.zero_add, HQ.out]; exact HC.out _ _ HA.out.2.2.2.2
      rintro e w4 ⟨p, rfl, p0, p1, p2, F4⟩
      rw [HE.out.1] at p1
      rw [HE.out.2] at p2
      have HF4 := Go.Lib.hid F4
      have HP1 := Go.Lib.hid p1
      have HP2 := Go.Lib.hid p2
      clear F4 p1 p2
      have i255 : ((k : Int) == 255) = false := by simp; omega
      have i5 : ((k : Int) == 5) = false := by simp; omega
      have n255 : (k == 255) = false := by simp; omega
      have n5 : (k == 5) = false := by simp; omega
      go_wp2_with (fail)
      refine (optData_any b 0 N c p k off ln _ HRM.out d2 (by omega) (by omega) hk1 p0 HP1.out HP2.out).mono ?_
      rintro e w5 ⟨rfl, hw⟩
      replace hw := hw.symm
      subst hw
      go_wp2_with ((with_reducible refine stop_update (t := 105) (m := .tmp 66) (x := .tmp 70) (v := .tmp 71) rfl ?_))
      unfold Stopped
      refine wpList_put_map rfl (.tmp 66) (.tmp 70) (.tmp 71) rfl Try.underlying5 Try.underlying105 mb M (HM.out.fresh HF4.out) (by omega) k (by omega) (.slice (some ⟨b, off, none⟩) ln (c - off)) HNO.out (by kernel_rfl) (by kernel_rfl) (by kernel_rfl) ?_
      intro w6 hm6 hk6
      have HM6 := Go.Lib.hid hm6
      have HK6 := Go.Lib.hid hk6
      clear hm6 hk6
      have i7 : (q : Int) ≤ 2000 := by omega
      go_wp2_with (fail)
      go_roundw
      case rel =>
        have hz : Bts w3 (.slice (some ⟨b, off, none⟩) ln (c - off)) (D k) := by
          have h1 := (HR3.out.bts.cut off (by omega)).head ln (by omega)
          rw [if_neg (by have := HRM.out; omega), HD1.out, ← HDK.out] at h1
          have h2 : (some (⟨b, 0, none⟩ : Addr)).map (·.add off) = some ⟨b, off, none⟩ := by simp [Addr.add]; omega
          rw [h2] at h1
          exact h1
        refine ⟨j + 1, q + 5, M ++ [(k, .slice (some ⟨b, off, none⟩) ln (c - off))], hjn, by simp, by have := HQ.out; omega, HM6.out, ?_, ?_, ?_⟩
        · rw [List.map_append, HMK.out, HTK.out]
          rfl
        · intro k' z' h'
          rw [lookup_snoc M k k' _ HNO.out] at h'
          by_cases hkk : k' = k
          · rw [if_pos hkk] at h'
            injection h' with h'
            subst h'
            subst hkk
            exact ⟨hz, rfl⟩
          · rw [if_neg hkk] at h'
            exact HMD.out k' z' h'
        · exact (HFF.out.trans HF4.out (fun _ _ h => h)).trans HK6.out (fun i hi e => by have := HMB.out; omega)
      case measure => simp [intOf]; omega
    · have hjk : j = ks.length := by omega
      subst hjk
      have HQ := Go.Lib.hid hq
      have hqN : q < N := by omega
      have hq255 : P[q]'(by rw [HNN.out]; exact hqN) = 255 := by
        have h1 := HEND.out
        rw [← hq] at h1
        exact (List.getElem?_eq_some_iff.1 h1).2
      clear hq
      go_wp2_with (fail)
      refine (optEnd_any b 0 N c q P _ HBT.out (by rw [HNN.out]; exact hqN) hq255).mono ?_
      rintro e w4 ⟨p, rfl, p0, F4⟩
      have HF4 := Go.Lib.hid F4
      clear F4 hq255
      rw [List.take_length] at HMK
      go_wp2_with (fail)
      go_ret2
      have hF : Fresh w3 w4 := HFF.out.trans HF4.out (fun _ _ h => h)
      refine ⟨mb, M, rfl, HM.out.fresh HF4.out, ⟨HMK.out, fun k z hz => ?_⟩, by have := HMB.out; have := HK3.out.size; omega, HK3.out.fresh hF⟩
      obtain ⟨h1, h2⟩ := HMD.out k z hz
      refine ⟨h1.fresh hF, fun i hi => ?_⟩
      rw [h2] at hi
      injection hi with hi
      omega
end Go.Proofs.Ytahcaoenddapoaa
