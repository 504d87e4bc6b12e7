/- (*tdsBuffer).WriteByte, in the first packet. writeBE of a number of two bytes. -/
import Derived.Test.YtahcaoenddapoaaNewBuf
import Derived.Test.YtahcaoenddapoaaImplPk
import Derived.Deep.QuietTactic
import Derived.BigQuiet
import Derived.Deep.RegionHeld3
import Derived.StillTailTactics
import Derived.Test.YtahcaoenddapoaaHdr
namespace Go.Proofs.Ytahcaoenddapoaa
section
open Go.RowKit

theorem splice_one (L : List Nat) (j b : Nat) (h : j < L.length) : splice L j [b] = L.set j b := by
  rw [splice_spec, List.set_eq_take_append_cons_drop, if_pos h]
  rfl

set_option maxRecDepth 100000 in
set_option maxHeartbeats 2000000 in
theorem writeByte_any (base g hb bb ps N C typ b : Nat) (v : Value) (T : List Nat) (w : World) (hO : Out w base g hb bb ps N C typ 0 v T) (hT : T.length + 8 < ps) (hps : ps < N) (hN : N ≤ 32768) (hNC : N < C) :
    Calls Try.prog 125 #[.pointer (some ⟨g, 0, none⟩), .int .u8 b] w fun e w' => e = .returned .nilIface ∧ Out w' base g hb bb ps N C typ 0 v (T ++ [b]) ∧ Kept w w' (RawS g hb bb v) := by
  obtain ⟨a1, a2, L, hR, hH⟩ := hO
  simp only [Nat.mul_zero, List.drop_zero, packs_zero] at hR hH
  have hL := hR.len
  have hc1 := hR.c1
  have hc2 := hR.c2
  have hc3 := hR.c3
  have HR := Go.Lib.hid hR
  have HH := Go.Lib.hid hH
  have HL := Go.Lib.hid hL
  obtain ⟨p, hp⟩ : ∃ p, 8 + T.length = p := ⟨_, rfl⟩
  have HP := Go.Lib.hid hp
  rw [hp] at hc3
  have i1 : (p : Int) < (ps : Int) := by omega
  have i0 : (p : Int) < (N : Int) := by omega
  have i2 : ((p : Int) == (N : Int)) = false := by simp; omega
  have i3 : ((p : Int) == (ps : Int)) = false := by simp; omega
  have i2n : (p == N) = false := by simp; omega
  have i3n : (p == ps) = false := by simp; omega
  clear hR hH hL hp a1 a2
  go_enter Try.func125, Try.ntmps125
  go_wp2_with (fail)
  go_quiet (fail)
  have hF : Fresh w (w.drewN nq) := (Kept.refl _ _).drewN nq
  have HR1 := Go.Lib.hid (HR.out.fresh hF)
  have HF := Go.Lib.hid hF
  clear hF hc1 hc2 hc3 i2 i3 i2n i3n
  generalize w.drewN nq = w1 at *
  have hc2 := HR1.out.c2
  have hc3 := HR1.out.c3
  have f3 := HR1.out.frz 3
  have hfr := HR1.out.blk.frozenAt p
  have hpl : p < L.length := by have := HL.out; omega
  obtain ⟨L0, hcell⟩ : ∃ L0 : Nat, w1.cell? ⟨hb, p, none⟩ = some (.int .u8 (L0 : Int)) := ⟨_, HR1.out.blk.cellAt p hpl⟩
  have n1 := HR1.out.n1
  have HPL := Go.Lib.hid hpl
  clear hpl
  rw [HP.out] at hc3
  go_wp2_with (fail)
  go_still_tail 10, (by kernel_rfl)
  go_wp2_with (fail)
  go_ret
  have R2 := HR1.out.set p b
  rw [HP.out] at R2
  have R3 := R2.fresh ((Kept.refl _ (fun _ => False)).drewN 1)
  have R4 := R3.cell 3 R3.c3 (u := .int .i64 ((p + 1 : Nat) : Int)) (pos' := p + 1) (seq' := (0 + 1) % 256) (typ' := typ) rfl rfl rfl (by decide) (by decide) (by decide) (by decide)
  have K4 : Kept w _ (RawS g hb bb v) := (((HF.out.mono (S := RawS g hb bb v) (fun _ _ h => h.elim)).setCell (p := ⟨hb, p, none⟩) (.inl (.inr (.inl rfl))) (.int .u8 (b : Int))).drewN 1).setCell (p := ⟨g, 3, none⟩) (.inl (.inl rfl)) (.int .i64 ((p + 1 : Nat) : Int))
  have hpp := HP.out
  have H2 : Hd (L.set p b) 0 (T ++ [b]) := by
    have h := HH.out.more [b] (by have := HPL.out; simp; omega)
    rw [splice_one _ _ _ (by have := HPL.out; omega), hpp] at h
    exact h
  refine ⟨rfl, ⟨by simp, by simp; omega, L.set p b, ?_, by simpa using H2⟩, K4⟩
  simp only [Nat.mul_zero, List.drop_zero, packs_zero]
  have e : 8 + (T ++ [b]).length = p + 1 := by simp; omega
  rw [e]
  exact R4
end

section
open Go.RowKit

set_option maxRecDepth 100000 in
set_option maxHeartbeats 1000000 in
theorem num16_any (x : Nat) (w : World) (hx : x < 65536) : Calls Try.prog 146 #[.iface 139 (.int .u16 x)] w fun e w' => e = .returned (.tuple #[.int .u64 x, .int .i64 2]) ∧ w' = w := by
  have t1 : ∀ W, (Instr.typeAssert (.iface 139 (.int .u16 x)) 20 5 true).run Try.prog W = .ok (.tuple #[.int .u8 0, .bool false]) W := by intro W; kernel_rfl
  have t2 : ∀ W, (Instr.typeAssert (.iface 139 (.int .u16 x)) 20 139 true).run Try.prog W = .ok (.tuple #[.int .u16 x, .bool true]) W := by intro W; kernel_rfl
  have i1 : (x : Int) < 65536 := by omega
  clear hx
  go_enter Try.func146, Try.ntmps146
  go_wp2
  go_ret2
  exact ⟨rfl, rfl⟩
theorem Out.below {w : World} {base g hb bb ps N C typ k : Nat} {v : Value} {T : List Nat} (h : Out w base g hb bb ps N C typ k v T) : ∀ j, RawS g hb bb v j → j < w.heap.size := by
  obtain ⟨_, _, L, hR, _⟩ := h
  intro j hj
  rcases hj with rfl | rfl | rfl | hj
  · exact hR.lt
  · exact hR.blk.lt
  · exact hR.wr.lt
  · exact (hR.wr.row.block j hj).2

/-- The two bytes of a number, the higher one first, as far as they are laid. -/
def be2 (x : Nat) : Nat → List Nat
  | 0 => [0, 0]
  | 1 => [x / 256 % 256, 0]
  | _ => [x / 256 % 256, x % 256]

set_option maxRecDepth 100000 in
set_option maxHeartbeats 2000000 in
theorem writeBE_any (base g hb bb ps N C typ k x : Nat) (v : Value) (T : List Nat) (w : World) (hO : Out w base g hb bb ps N C typ k v T) (hl : Less (ps - 8) k T) (hx : x < 65536)
    (h9 : 9 ≤ ps) (hpN : ps ≤ N) (hNC : N < C) (hN : N ≤ 32768) (hC : C ≤ 70000) (hbase : base ≤ w.heap.size) (hT : T.length ≤ 100000) :
    Calls Try.prog 126 #[.iface 111 (.pointer (some ⟨g, 0, none⟩)), .iface 139 (.int .u16 x)] w fun e w' => e = .returned .nilIface ∧ ∃ k' v', Out w' base g hb bb ps N C typ k' v' (T ++ [x / 256 % 256, x % 256]) ∧ Less (ps - 8) k' (T ++ [x / 256 % 256, x % 256]) ∧ Kept w w' (RawS g hb bb v) ∧ Moved w v v' := by
  obtain ⟨i0, hi, hz0, hz1, hz2⟩ := info_parts info5
  have HO := Go.Lib.hid hO
  have HL := Go.Lib.hid hl
  have HX := Go.Lib.hid hx
  have H9 := Go.Lib.hid h9
  have HPN := Go.Lib.hid hpN
  have HNC := Go.Lib.hid hNC
  have HNN := Go.Lib.hid hN
  have HCC := Go.Lib.hid hC
  have HBB := Go.Lib.hid hbase
  have HTT := Go.Lib.hid hT
  have i1 : (x : Int) < 65536 := by omega
  have hme := methWrite111
  have hen := enter78
  clear hO hl hx h9 hpN hNC hN hC hbase hT
  go_enter Try.func126, Try.ntmps126
  go_wp2_with (fail)
  refine (num16_any x _ HX.out).mono ?_
  rintro e w1 ⟨rfl, hw⟩
  replace hw := hw.symm
  subst hw
  go_wp2_with (at_make; refine wpList_make_full _ rfl _ _ 24 rfl w.heap.size 5 i0 (.int .u8 0) 1 Try.underlying24 hi hz0 hz1 .i64 .i64 _ _ 2 rfl rfl (by omega) (by omega) (by rw [hz2]; omega) (by unfold maxLen; omega) (Nat.le_refl _) ?_; intro w1 hown hgr)
  have hF1 : Fresh w w1 := (Kept.of_grown hgr).mono (fun _ _ h => by cases h)
  have hr1 : Row w.heap.size w1 (.slice (some ⟨w.heap.size, 0, none⟩) 2 2) (be2 x 0) := RowK.of_own hown (by kernel_rfl) rfl
  have HF1 := Go.Lib.hid hF1
  have HR1 := Go.Lib.hid hr1
  clear hown hgr hF1 hr1
  generalize hG : w.heap.size = G at *
  have HGG := Go.Lib.hid hG
  clear hG
  go_loopw [20] (fun i wr => ∃ j : Nat, j ≤ 2 ∧ i = .int .i64 (j : Int) ∧ Row G wr (.slice (some ⟨G, 0, none⟩) 2 2) (be2 x j) ∧ Fresh w wr) (fun i _ => 2 - (intOf i).toNat)
  case atStart => exact ⟨0, by omega, rfl, HR1.out, HF1.out⟩
  case round =>
    obtain ⟨j, hj, rfl, hr, hF⟩ := hrel
    have HR := Go.Lib.hid hr
    have HF := Go.Lib.hid hF
    obtain rfl | rfl | rfl : j = 0 ∨ j = 1 ∨ j = 2 := by omega
    · have h0 : wr.cell? ⟨G, 0, none⟩ = some (.int .u8 0) := hr.cellAt 0 (by simp [be2])
      have f0 := hr.frozenAt 0
      clear hr hF
      go_wp2
      go_roundw
      case rel =>
        refine ⟨1, by omega, rfl, ?_, HF.out.trans ((Kept.refl _ (fun k => k = G)).setCell (p := ⟨G, 0, none⟩) (.inl rfl) _) (fun k hk e => by have := HGG.out; omega)⟩
        have h := HR.out.stored 0 (x / 256 % 256)
        have e : ((x / 256 % 256 : Nat) : Int) = (x : Int) / 256 := by have := HX.out; omega
        rw [e] at h
        exact h
      case measure => simp [intOf]
    · have h0 : wr.cell? ⟨G, 1, none⟩ = some (.int .u8 0) := hr.cellAt 1 (by simp [be2])
      have f0 := hr.frozenAt 1
      clear hr hF
      go_wp2
      go_roundw
      case rel =>
        refine ⟨2, by omega, rfl, ?_, HF.out.trans ((Kept.refl _ (fun k => k = G)).setCell (p := ⟨G, 1, none⟩) (.inl rfl) _) (fun k hk e => by have := HGG.out; omega)⟩
        have h := HR.out.stored 1 (x % 256)
        have e : ((x % 256 : Nat) : Int) = (x : Int) % 256 := by omega
        rw [e] at h
        exact h
      case measure => simp [intOf]
    · have hO2 := Go.Lib.hid (HO.out.fresh HF.out)
      clear hr hF
      go_wp2_with (fail)
      refine (write_any base g hb bb ps N C typ k v _ T (be2 x 2) wr hO2.out HL.out HR.out.bts (fun j hj hs => ?_) H9.out HPN.out HNC.out HNN.out HCC.out (by have h1 := HGG.out; have h2 := HF.out.size; have h3 := HBB.out; omega) ?_).mono ?_
      · have h1 := HO.out.below j hs
        have h2 := HGG.out
        simp [Value.ownBlock] at hj
        omega
      · have := HTT.out
        simp [be2]
        omega
      rintro e W ⟨rfl, k', v', hO3, hl3, K3, M3⟩
      have HO3 := Go.Lib.hid hO3
      have HL3 := Go.Lib.hid hl3
      have HK3 := Go.Lib.hid ((HF.out.mono (S := RawS g hb bb v) (fun _ _ h => h.elim)).trans K3 (fun _ _ h => h))
      have HM3 : Go.RowKit.Hid (Moved w v v') := Go.Lib.hid (fun b' hb' => (M3 b' hb').imp id (fun h => Nat.le_trans HF.out.size h))
      clear hO3 hl3 K3 M3
      go_wp2
      go_ret
      exact ⟨rfl, k', v', HO3.out, HL3.out, HK3.out, HM3.out⟩
end
end Go.Proofs.Ytahcaoenddapoaa
