/- Times are encoded: dateTime2, calcTimeSize, encodeTimeInt. -/
import Derived.Test.YtahcaoenddapoaaDoorPow
import Derived.Deep.DeepCutAuto
namespace Go.Proofs.YtahcaoenddapoaaDoor
open Go.RowKit

/-- How many bytes a time of a scale has. -/
def tsz (s : Nat) : Nat := if s ≤ 2 then 3 else if s ≤ 4 then 4 else 5

set_option maxRecDepth 100000 in
theorem tsz_any (s : Nat) (hs : s ≤ 7) (w : World) : Calls Tryd.prog 59 #[.int .i64 (s : Int)] w fun e w' => e = .returned (.int .i64 (tsz s : Int)) ∧ w' = w := by
  unfold tsz
  go_enter Tryd.func59, Tryd.ntmps59
  by_cases h2 : s ≤ 2
  · have h2' : (s : Int) ≤ 2 := by omega
    rw [if_pos h2]
    go_wp2
    go_ret
    simp
  · have h2' : ¬ (s : Int) ≤ 2 := by omega
    rw [if_neg h2]
    by_cases h4 : s ≤ 4
    · have h4' : (s : Int) ≤ 4 := by omega
      rw [if_pos h4]
      go_wp2
      go_ret
      simp
    · have h4' : ¬ (s : Int) ≤ 4 := by omega
      rw [if_neg h4]
      go_wp2
      go_ret
      simp

theorem nat_div_mod (t a m : Nat) : ((t / a % m : Nat) : Int) = (t : Int) / (a : Int) % (m : Int) := rfl

/-- The bytes of a time, put. -/
def timed (L : List Nat) (t s : Nat) : List Nat :=
  let l3 := ((L.set 0 (t % 256)).set 1 (t / 256 % 256)).set 2 (t / 65536 % 256)
  let l4 := if 2 < s then l3.set 3 (t / 16777216 % 256) else l3
  if 4 < s then l4.set 4 (t / 4294967296 % 256) else l4

set_option maxRecDepth 100000 in
set_option maxHeartbeats 1000000 in
theorem encTime_any (s t : Nat) (S N : Int) (hs : s ≤ 7) (hS0 : 0 ≤ S) (hS1 : S ≤ 86400) (hN0 : 0 ≤ N) (hN1 : N < 1000000000) (ht : (S * 1000000000 + N) / ((10 ^ (9 - s) : Nat) : Int) = (t : Int))
    (base b n c : Nat) (L : List Nat) (w : World) (hr : Row base w (.slice (some ⟨b, 0, none⟩) n c) L) (hL : tsz s ≤ n) (hP : Pw w) :
    Calls Tryd.prog 60 #[.int .i64 S, .int .i64 N, .int .i64 (s : Int), .slice (some ⟨b, 0, none⟩) n c] w fun e w' => e = .returned (.tuple #[]) ∧ Row base w' (.slice (some ⟨b, 0, none⟩) n c) (timed L t s) ∧ Kept w w' (fun k => k = b) := by
  obtain ⟨r, r2, hc, hm, hi⟩ := pow_scale s hs
  have hu0 : (0 : Int) < ((10 ^ (9 - s) : Nat) : Int) := by have := Nat.pow_pos (n := 9 - s) (show 0 < 10 by decide); omega
  have hT : S * 1000 * 1000 * 1000 + N = S * 1000000000 + N := by omega
  have ht0 : (0 : Int) ≤ (t : Int) := Int.natCast_nonneg _
  have ht1 : (t : Int) ≤ 100000000000000 := by
    rw [← ht]
    refine Int.le_trans (Int.ediv_le_self _ (by omega)) (by omega)
  have hq : (S * 1000 * 1000 * 1000 + N).tdiv ((10 ^ (9 - s) : Nat) : Int) = (t : Int) := by
    rw [hT, Int.tdiv_eq_ediv_of_nonneg (by omega)]; exact ht
  generalize ((10 ^ (9 - s) : Nat) : Int) = u at *
  have hune : u ≠ 0 := by omega
  have HC := Go.Lib.hid hc
  clear hc ht hT hu0
  have b1 : S * 1000 ≤ 86400000 := by omega
  have b2 : S * 1000 * 1000 ≤ 86400000000 := by omega
  have b3 : S * 1000 * 1000 * 1000 ≤ 86400000000000 := by omega
  have b0 : 0 ≤ S * 1000 := by omega
  have b02 : 0 ≤ S * 1000 * 1000 := by omega
  have b03 : 0 ≤ S * 1000 * 1000 * 1000 := by omega
  go_enter Tryd.func60, Tryd.ntmps60
  go_wp2_with (fail)
  refine (HC.out _ hP).mono ?_
  rintro e w1 ⟨rfl, q, rfl⟩
  have hF : Fresh w (w.drewN q) := (Kept.refl w _).drewN q
  have hr1 := hr.fresh hF
  have hK1 : Kept w (w.drewN q) (fun k => k = b) := (Kept.refl w _).drewN q
  clear hr hP hF
  generalize w.drewN q = W at *
  have hn3 : 3 ≤ n := by unfold tsz at hL; split at hL <;> (try split at hL) <;> omega
  have hlen := hr1.len
  have hc := hr1.cellAt
  obtain ⟨z0, c0⟩ : ∃ z : Int, W.cell? ⟨b, 0, none⟩ = some (.int .u8 z) := ⟨_, hc 0 (by omega)⟩
  obtain ⟨z1, c1⟩ : ∃ z : Int, W.cell? ⟨b, 1, none⟩ = some (.int .u8 z) := ⟨_, hc 1 (by omega)⟩
  obtain ⟨z2, c2⟩ : ∃ z : Int, W.cell? ⟨b, 2, none⟩ = some (.int .u8 z) := ⟨_, hc 2 (by omega)⟩
  have f0 := hr1.frozenAt 0
  have f1 := hr1.frozenAt 1
  have f2 := hr1.frozenAt 2
  have i1 : (0 : Int) < (n : Int) := by omega
  have i2 : (1 : Int) < (n : Int) := by omega
  have i3 : (2 : Int) < (n : Int) := by omega
  obtain ⟨B0, hB0⟩ : ∃ B : Nat, B = t % 256 := ⟨_, rfl⟩
  obtain ⟨B1, hB1⟩ : ∃ B : Nat, B = t / 256 % 256 := ⟨_, rfl⟩
  obtain ⟨B2, hB2⟩ : ∃ B : Nat, B = t / 65536 % 256 := ⟨_, rfl⟩
  have e0 : (B0 : Int) = (t : Int) % 256 := by rw [hB0]; rfl
  have e1 : (B1 : Int) = (t : Int) / 256 % 256 := by rw [hB1]; exact nat_div_mod _ _ _
  have e2 : (B2 : Int) = (t : Int) / 65536 % 256 := by rw [hB2]; exact nat_div_mod _ _ _
  have hr2 := ((hr1.stored 0 B0).stored 1 B1).stored 2 B2
  have hK2 := (((hK1.setCell (p := ⟨b, 0, none⟩) (.inl rfl) (.int .u8 (B0 : Int))).setCell (p := ⟨b, 1, none⟩) (.inl rfl) (.int .u8 (B1 : Int))).setCell (p := ⟨b, 2, none⟩) (.inl rfl) (.int .u8 (B2 : Int)))
  generalize hTT : (t : Int) = T at *
  have HTT := Go.Lib.hid hTT
  rw [e0, e1, e2] at hr2 hK2
  have HR := Go.Lib.hid hr2
  have HK := Go.Lib.hid hK2
  have HB0 := Go.Lib.hid hB0
  have HB1 := Go.Lib.hid hB1
  have HB2 := Go.Lib.hid hB2
  clear hTT hc hr1 hK1 hr2 hK2 e0 e1 e2 hlen HC hB0 hB1 hB2
  go_upto_region 5 with (fail)
  generalize hWW : (((W.setCell ⟨b, 0, none⟩ (.int .u8 (T % 256))).setCell ⟨b, 1, none⟩ (.int .u8 (T / 256 % 256))).setCell ⟨b, 2, none⟩ (.int .u8 (T / 65536 % 256))) = W2 at *
  clear c0 c1 c2 f0 f1 f2 hWW
  have hl3 : (((L.set 0 B0).set 1 B1).set 2 B2).length = n := by rw [HR.out.len]
  by_cases h2 : s ≤ 2
  · have h2' : (s : Int) ≤ 2 := by omega
    have h4' : (s : Int) ≤ 4 := by omega
    go_wp2
    go_end0
    refine ⟨rfl, ?_, HK.out⟩
    unfold timed
    rw [if_neg (by omega), if_neg (by omega), ← HB0.out, ← HB1.out, ← HB2.out]
    exact HR.out
  · have h2' : ¬ (s : Int) ≤ 2 := by omega
    have hn4 : 4 ≤ n := by unfold tsz at hL; rw [if_neg h2] at hL; split at hL <;> omega
    obtain ⟨B3, hB3⟩ : ∃ B : Nat, B = t / 16777216 % 256 := ⟨_, rfl⟩
    have e3 : (B3 : Int) = T / 16777216 % 256 := by rw [hB3, ← HTT.out]; exact nat_div_mod _ _ _
    obtain ⟨z3, c3⟩ : ∃ z : Int, W2.cell? ⟨b, 3, none⟩ = some (.int .u8 z) := ⟨_, HR.out.cellAt 3 (by omega)⟩
    have f3 := HR.out.frozenAt 3
    have hr3 := HR.out.stored 3 B3
    have hK3 := HK.out.setCell (p := ⟨b, 3, none⟩) (.inl rfl) (.int .u8 (B3 : Int))
    rw [e3] at hr3 hK3
    have HR3 := Go.Lib.hid hr3
    have HK3 := Go.Lib.hid hK3
    have HB3 := Go.Lib.hid hB3
    clear hr3 hK3 hB3 e3
    have i3' : (3 : Int) < (n : Int) := by omega
    by_cases h4 : s ≤ 4
    · have h4' : (s : Int) ≤ 4 := by omega
      go_wp2
      go_end0
      refine ⟨rfl, ?_, HK3.out⟩
      unfold timed
      rw [if_neg (by omega), if_pos (by omega), ← HB0.out, ← HB1.out, ← HB2.out, ← HB3.out]
      exact HR3.out
    · have h4' : ¬ (s : Int) ≤ 4 := by omega
      have hn5 : 5 ≤ n := by unfold tsz at hL; rw [if_neg h2, if_neg h4] at hL; omega
      have i4' : (4 : Int) < (n : Int) := by omega
      go_upto_region 7 with (fail)
      generalize hW3 : W2.setCell ⟨b, 3, none⟩ (.int .u8 (T / 16777216 % 256)) = W3 at *
      clear c3 f3 hW3
      have hl4 : ((((L.set 0 B0).set 1 B1).set 2 B2).set 3 B3).length = n := by rw [HR3.out.len]
      obtain ⟨B4, hB4⟩ : ∃ B : Nat, B = t / 4294967296 % 256 := ⟨_, rfl⟩
      have e4 : (B4 : Int) = T / 4294967296 % 256 := by rw [hB4, ← HTT.out]; exact nat_div_mod _ _ _
      obtain ⟨z4, c4⟩ : ∃ z : Int, W3.cell? ⟨b, 4, none⟩ = some (.int .u8 z) := ⟨_, HR3.out.cellAt 4 (by omega)⟩
      have f4 := HR3.out.frozenAt 4
      have hr4 := HR3.out.stored 4 B4
      have hK4 := HK3.out.setCell (p := ⟨b, 4, none⟩) (.inl rfl) (.int .u8 (B4 : Int))
      rw [e4] at hr4 hK4
      have HR4 := Go.Lib.hid hr4
      have HK4 := Go.Lib.hid hK4
      have HB4 := Go.Lib.hid hB4
      clear hr4 hK4 hB4 e4
      go_wp2
      go_end0
      refine ⟨rfl, ?_, HK4.out⟩
      unfold timed
      rw [if_pos (by omega), if_pos (by omega), ← HB0.out, ← HB1.out, ← HB2.out, ← HB3.out, ← HB4.out]
      exact HR4.out
end Go.Proofs.YtahcaoenddapoaaDoor
