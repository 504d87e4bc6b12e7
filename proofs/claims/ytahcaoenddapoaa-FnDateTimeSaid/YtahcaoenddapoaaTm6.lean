/- impl.moment. -/
import Derived.Test.YtahcaoenddapoaaTm5
namespace Go.Proofs.Ytahcaoenddapoaa
open Go.RowKit

theorem T3.lt {w : World} {b : Nat} {x y z : Value} (h : T3 w b x y z) : b < w.heap.size := World.block_lt_of_cell? w ⟨b, 0, none⟩ h.c0

set_option maxRecDepth 100000 in
theorem moment_any (d N o : Int) (n E : Nat) (hd0 : 0 ≤ d) (hd : d ≤ 3652059) (hN0 : 0 ≤ N) (hN : N < 86400000000000) (ho0 : -840 ≤ o) (ho1 : o ≤ 840) (hE : d * 86400 + N / 1000000000 - o * 60 = (E : Int)) (hn : N % 1000000000 = (n : Int)) (w : World) :
    Calls Try.prog 60 #[.int .i64 d, .int .i64 N, .int .i64 o] w fun e w' => ∃ r, e = .returned (tv n E (.pointer r)) ∧ At w' r (o * 60) ∧ Fresh w w' ∧ (o = 0 → r = none) := by
  have hn1 : n < 1000000000 := by omega
  have hE1 : E ≤ 1000000000000 := by omega
  have hu : (d - 719162) * 86400 + N / 1000000000 - o * 60 + 62135596800 = (E : Int) := by omega
  have hT0 := T3.new w (.int .u64 0) (.int .i64 0) (.pointer none) 100
  have hF0 : Fresh w (w.alloc (.cells #[.int .u64 0, .int .i64 0, .pointer none] 100)) := (Kept.refl w _).alloc _
  have HU := Go.Lib.hid hu
  have HN := Go.Lib.hid hn
  have HN1 := Go.Lib.hid hn1
  have HE1 := Go.Lib.hid hE1
  clear hu hn hn1 hE1 hE
  go_enter Try.func60, Try.ntmps60
  go_wp2_with (fail)
  rw [HN.out]
  refine (Unix_any n _ E HN1.out HU.out HE1.out _).mono ?_
  rintro e w1 ⟨rfl, hF1⟩
  have hT1 := hT0.fresh hF1
  have hF2 := hF0.fresh hF1
  have hT2 := T3.new w1 (.int .u64 (n : Int)) (.int .i64 (E : Int)) (.pointer none) 100
  have hF3 : Fresh w1 (w1.alloc (.cells #[.int .u64 (n : Int), .int .i64 (E : Int), .pointer none] 100)) := (Kept.refl w1 _).alloc _
  have hT3 := hT1.fresh hF3
  have hF4 := hF2.fresh hF3
  clear hT0 hF0 hF1 hT1
  clear hF2 hF3
  have hn2 : n < 1073741824 := by have := HN1.out; omega
  by_cases h0 : o = 0
  · subst h0
    go_wp2_with (fail)
    generalize (w1.alloc (.cells #[.int .u64 (n : Int), .int .i64 (E : Int), .pointer none] 100)) = W at *
    obtain ⟨a0, a1, a2, a3, a4, a5⟩ := hT2
    refine (UTC_any n E hn2 _).mono ?_
    rintro e w2 ⟨rfl, hF5⟩
    have hT4 := hT3.fresh hF5
    have hF6 := hF4.fresh hF5
    have HT := Go.Lib.hid (hT4.set (.int .u64 (n : Int)) (.int .i64 (E : Int)) (.pointer none))
    obtain ⟨e0, e1, e2, e3, e4, e5⟩ := hT4
    clear a0 a1 a2 a3 a4 a5 hT3 hF5 hF4
    go_wp2
    obtain ⟨r0, r1, r2, _, _, _⟩ := HT.out
    exact bodyPost_ret (v := tv n E (.pointer none)) (by simp [results, Try.results60, go_sem, r0, r1, r2]) rfl ⟨none, rfl, .inl ⟨rfl, rfl⟩, fresh_set (fresh_set (fresh_set hF6 (Nat.le_refl _) _) (Nat.le_refl _) _) (Nat.le_refl _) _, rfl⟩
  · have b0 : (0 : Int) ≤ o * 60 + 50400 := by omega
    have b1 : o * 60 ≤ 50400 := by omega
    go_wp2_with (fail)
    generalize (w1.alloc (.cells #[.int .u64 (n : Int), .int .i64 (E : Int), .pointer none] 100)) = W at *
    have HT2 := Go.Lib.hid hT2
    have HT3 := Go.Lib.hid hT3
    have HF4 := Go.Lib.hid hF4
    have hb0 := T3.lt hT3
    have ho60 : IntKind.i64.wrap (o * 60) = o * 60 := IntWalk.i64_in _ (by omega)
    have hp : plc false = fun q => .pointer (some ⟨q, 0, none⟩) := rfl
    obtain ⟨a0, a1, a2, a3, a4, a5⟩ := hT2
    clear hT3 hF4
    go_region_with (first
      | (go_at_call 89; refine (FixedZone_any _ _ _).mono ?_; rintro e w2 ⟨q, rfl, hL, hF5⟩; have hF5' := ((Kept.refl W (fun _ => False)).drew).fresh hF5; obtain ⟨k0, k1, k2, k3, k4, k5⟩ := HT2.out.fresh hF5'; have hL0 := (hL w2 (Kept.refl _ _)).c0; have HL := Go.Lib.hid hL; clear hL)
      | (go_at_call 88; refine (In_any n E _ false none hn2 _ hL0).mono ?_; rintro e w3 ⟨rfl, hF7⟩; rw [hp]; have hT5 := (HT3.out.fresh hF5').fresh hF7; have HT := Go.Lib.hid (hT5.set (.int .u64 (n : Int)) (.int .i64 (E : Int)) (.pointer (some ⟨q, 0, none⟩))); obtain ⟨e0, e1, e2, e3, e4, e5⟩ := hT5))
    all_goals
      have hWd : W.drew.heap.size = W.heap.size := rfl
      have K1 : ∀ (x y z : Value), Loc (((w3.setCell ⟨w.heap.size, 0, none⟩ x).setCell ⟨w.heap.size, 1, none⟩ y).setCell ⟨w.heap.size, 2, none⟩ z) q (o * 60) := fun x y z => HL.out _ ((((hF7.mono (S := fun k => k < W.drew.heap.size) (fun _ _ h => h.elim)).setCell (p := ⟨w.heap.size, 0, none⟩) (.inl hb0) x).setCell (p := ⟨w.heap.size, 1, none⟩) (.inl hb0) y).setCell (p := ⟨w.heap.size, 2, none⟩) (.inl hb0) z)
      have HK1 := Go.Lib.hid K1
      have HFF := Go.Lib.hid ((HF4.out.fresh hF5').fresh hF7)
      clear K1
      go_wp2
      obtain ⟨r0, r1, r2, _, _, _⟩ := HT.out
      exact bodyPost_ret (v := tv n E (.pointer (some ⟨q, 0, none⟩))) (by simp [results, Try.results60, go_sem, r0, r1, r2]) rfl ⟨_, rfl, .inr ⟨q, rfl, HK1.out _ _ _⟩, fresh_set (fresh_set (fresh_set HFF.out (Nat.le_refl _) _) (Nat.le_refl _) _) (Nat.le_refl _) _, fun h => absurd h h0⟩
end Go.Proofs.Ytahcaoenddapoaa
