/- Int.Bytes. -/
import Derived.Test.YthmopakaikhjlaaGreatDoorByt
import Derived.Deep.RegionHeld3
import Derived.Test.YthmopakaikhjlaaGreatDoorPkt
namespace Go.Proofs.YthmopakaikhjlaaGreatDoor
open Go.RowKit

theorem zeros_head (S : List Nat) : ∀ i, i ≤ S.length → (∀ j, j < i → S[j]? = some 0) → S = List.replicate i 0 ++ S.drop i := by
  intro i
  induction i with
  | zero => intro _ _; simp
  | succ i ih =>
    intro hi h
    have h1 := ih (by omega) (fun j hj => h j (by omega))
    have h2 : S.drop i = S[i]'(by omega) :: S.drop (i + 1) := List.drop_eq_getElem_cons _
    have h3 : S[i]'(by omega) = 0 := by
      have h4 := h i (by omega)
      rw [List.getElem?_eq_getElem (by omega)] at h4
      exact Option.some.inj h4
    rw [List.replicate_succ', List.append_assoc, List.singleton_append]
    rw [h2, h3] at h1
    exact h1

/-- Bytes that read as a number, the highest first, with no nought ahead. -/
structure BeB (w : World) (v : Value) (B : List Nat) (N : Nat) : Prop where
  bts : Bts w v B
  val : bev B = N
  lt : ∀ b ∈ B, b < 256
  few : B.length ≤ 24
  top : ∀ h : 0 < B.length, B[0] ≠ 0

theorem bev_lt : ∀ B : List Nat, (∀ b ∈ B, b < 256) → bev B < 256 ^ B.length
  | [], _ => by decide
  | b :: B, h => by
    have h1 := bev_lt B (fun x hx => h x (by simp [hx]))
    have h2 := h b (by simp)
    simp only [bev, List.length_cons, Nat.pow_succ]
    have h3 : b * 256 ^ B.length ≤ 255 * 256 ^ B.length := Nat.mul_le_mul_right _ (by omega)
    omega

theorem bev_ge (B : List Nat) (h : 0 < B.length) (h0 : B[0] ≠ 0) : 256 ^ (B.length - 1) ≤ bev B := by
  cases B with
  | nil => simp at h
  | cons b B =>
    simp only [List.getElem_cons_zero] at h0
    simp only [bev, List.length_cons, Nat.add_sub_cancel]
    have : 1 * 256 ^ B.length ≤ b * 256 ^ B.length := Nat.mul_le_mul_right _ (by omega)
    omega

/-- How many bytes a number below a power of 256 has. -/
theorem BeB.length_le {w : World} {v : Value} {B : List Nat} {N m : Nat} (h : BeB w v B N) (hm : N < 256 ^ m) : B.length ≤ m := by
  refine Nat.le_of_not_lt fun hlt => ?_
  have h1 := bev_ge B (by omega) (h.top (by omega))
  rw [h.val] at h1
  have h2 : 256 ^ m ≤ 256 ^ (B.length - 1) := Nat.pow_le_pow_right (by decide) (by omega)
  omega

set_option maxRecDepth 100000 in
set_option maxHeartbeats 1000000 in
theorem intBytes_any (ib : Nat) (neg : Bool) (v : Value) (L : List Nat) (lo : Nat) (w : World) (hB : Big w ib neg v) (hz : Nt w lo v L) (hL : L.length ≤ 3) :
    Calls Tryz.prog 34 #[.pointer (some ⟨ib, 0, none⟩)] w fun e w' => ∃ u B, e = .returned u ∧ BeB w' u B (nv L) ∧ Fresh w w' ∧ ∀ ad n c, u = .slice (some ad) n c → w.heap.size ≤ ad.block := by
  obtain ⟨i0, hi, hz0, hz1, hz2⟩ := info_parts info5
  obtain ⟨A, cz, rfl, hcz⟩ := hz.slice
  have c1 := hB.c1
  have HB := Go.Lib.hid hB
  have HZ := Go.Lib.hid hz
  obtain ⟨n, hn⟩ : ∃ n, L.length = n := ⟨_, rfl⟩
  rw [hn] at HB HZ c1 hcz hL
  have HN := Go.Lib.hid hn
  have hzb := hz.block
  rw [hn] at hzb
  have HZB := Go.Lib.hid hzb
  clear hB hz hn hzb
  have i1 : (n : Int) ≤ 3 := by omega
  go_enter Tryz.func34, Tryz.ntmps34
  go_upto_region 2 with (at_make; refine wpList_make_full _ rfl _ _ 28 rfl w.heap.size 5 i0 (.int .u8 0) 1 Tryz.underlying28 hi hz0 hz1 .i64 .i64 _ _ (n * 8) rfl rfl (by omega) (by omega) (by rw [hz2]; omega) (by unfold maxLen; omega) (Nat.le_refl _) ?_; intro w1 hown hgr)
  have hcs : (madeCells (Value.int .u8 0).cells (n * 8 * 1)).toList = ints .u8 (List.replicate (n * 8) 0) := by
    rw [Nat.mul_one, show (Value.int .u8 0).cells = #[.int .u8 0] from rfl, toList_madeCells_one]
    simp [ints]
  have hr1 : Row w.heap.size w1 (.slice (some ⟨w.heap.size, 0, none⟩) (n * 8) (n * 8)) (List.replicate (n * 8) 0) := RowK.of_own hown hcs (by simp)
  have hF1 : Fresh w w1 := (Kept.of_grown hgr).mono (fun _ _ h => by cases h)
  have hsz : w.heap.size < w1.heap.size := (hr1.block _ rfl).2
  have c2 := hF1.held c1 (fun h => h)
  have hne : (Value.slice A n cz).ownBlock ≠ some w.heap.size := fun e => by have := HZB.out _ e; omega
  have H53 := Go.Lib.hid (natBytes_any lo w.heap.size w.heap.size (n * 8) (n * 8) (.slice A n cz) L w1 (HZ.out.fresh hF1) (by rw [HN.out]; exact hL) (by rw [HN.out]; omega) hr1 hne)
  have HF1 := Go.Lib.hid hF1
  clear hcs hr1 hF1 hown hgr c1 hne
  obtain ⟨N, hN⟩ : ∃ N, n * 8 = N := ⟨_, rfl⟩
  rw [hN] at H53 ⊢
  have hN24 : N ≤ 24 := by omega
  clear hN
  go_wp2_with (fail)
  refine H53.out.mono ?_
  rintro e w2 ⟨i, S, rfl, hiN, hrow, hv, hlt, hz0, htop, hK⟩
  have hSl : S.length = N := hrow.len.symm
  have hcut := BtsK.cut hrow.bts i hiN
  have hsplit := zeros_head S i (by omega) hz0
  have hval : bev (S.drop i) = nv L := by
    rw [hsplit, bev_zeros] at hv
    exact hv
  have i2 : (i : Int) ≤ (N : Int) := by omega
  have hfr : Fresh w w2 := HF1.out.trans hK (fun k hk e => by omega)
  have hB : ∀ u, Bts w2 u (S.drop i) → BeB w2 u (S.drop i) (nv L) := fun u hu => ⟨hu, hval, fun b hb => hlt b (List.mem_of_mem_drop hb), by rw [List.length_drop]; omega, fun h => by
    rw [List.length_drop] at h
    have h1 := htop (by omega)
    rw [List.getElem_drop]
    simpa using h1⟩
  have HB2 := Go.Lib.hid hB
  have HC := Go.Lib.hid hcut
  have HF := Go.Lib.hid hfr
  clear hrow hv hlt hz0 htop hK hSl hcut hsplit hval hfr hB
  by_cases hiN2 : N = i
  · subst hiN2
    rw [if_pos rfl, Nat.sub_self] at HC
    go_wp2_with (fail)
    go_ret
    exact ⟨_, _, rfl, HB2.out _ HC.out, HF.out, fun ad n c h => by injection h with h1 _ _; cases h1 <;> exact Nat.le_refl _⟩
  · rw [if_neg hiN2] at HC
    simp only [Option.map_some] at HC
    have hadd : (⟨w.heap.size, 0, none⟩ : Addr).add i = ⟨w.heap.size, i, none⟩ := by unfold Addr.add; split <;> simp_all
    rw [hadd] at HC
    have i3 : (i : Int) < (N : Int) := by omega
    go_wp2_with (fail)
    go_ret
    exact ⟨_, _, rfl, HB2.out _ HC.out, HF.out, fun ad n c h => by injection h with h1 _ _; cases h1 <;> exact Nat.le_refl _⟩
end Go.Proofs.YthmopakaikhjlaaGreatDoor
