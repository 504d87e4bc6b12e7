/- bits.Len of a small number; sort.Sort over a keySlice of few keys. -/
import Derived.Test.YtahcaoenddapoaaSrt2
namespace Go.Proofs.Ytahcaoenddapoaa
open Go.RowKit

set_option maxRecDepth 100000 in
set_option maxHeartbeats 1000000 in
theorem len64_any (x : Nat) (h : x ≤ 12) (w : World) : Calls Try.prog 138 #[.int .u64 x] w fun e w' => (∃ v, e = .returned (.int .i64 v)) ∧ w' = w := by
  obtain rfl | rfl | rfl | rfl | rfl | rfl | rfl | rfl | rfl | rfl | rfl | rfl | rfl : x = 0 ∨ x = 1 ∨ x = 2 ∨ x = 3 ∨ x = 4 ∨ x = 5 ∨ x = 6 ∨ x = 7 ∨ x = 8 ∨ x = 9 ∨ x = 10 ∨ x = 11 ∨ x = 12 := by omega
  all_goals
    go_enter Try.func138, Try.ntmps138
    go_wp2
    go_ret
    exact ⟨⟨_, rfl⟩, rfl⟩
set_option maxRecDepth 100000 in
theorem bitsLen_any (x : Nat) (h : x ≤ 12) (w : World) : Calls Try.prog 99 #[.int .u64 x] w fun e w' => (∃ v, e = .returned (.int .i64 v)) ∧ w' = w := by
  have HX := Go.Lib.hid h
  clear h
  go_enter Try.func99, Try.ntmps99
  go_wp2_with (fail)
  refine (len64_any x HX.out _).mono ?_
  rintro e w1 ⟨⟨v, rfl⟩, hw⟩
  replace hw := hw.symm
  subst hw
  go_wp2
  go_ret
  exact ⟨⟨_, rfl⟩, rfl⟩

/-- The keys l, in growing order. -/
theorem upto_pairwise {l : List Nat} (h : Upto id l l.length) : l.Pairwise (· < ·) :=
  List.pairwise_iff_getElem.2 fun a b ha hb hab => h a b ha hb hab hb

set_option maxRecDepth 100000 in
set_option maxHeartbeats 2000000 in
theorem sort_any (base g n c : Nat) (l : List Nat) (w : World) (h : Row base w (.slice (some ⟨g, 0, none⟩) n c) l) (hd : l.Nodup) (hn : n ≤ 12) :
    Calls Try.prog 124 #[.iface 174 (.slice (some ⟨g, 0, none⟩) n c)] w fun e w' => e = .returned (.tuple #[]) ∧ ∃ l', l'.Perm l ∧ l'.Pairwise (· < ·) ∧ Row base w' (.slice (some ⟨g, 0, none⟩) n c) l' ∧ Kept w w' (fun k => k = g) := by
  have hl := h.len
  have HR := Go.Lib.hid h
  have HD := Go.Lib.hid hd
  have HL := Go.Lib.hid hl
  have hln := methLen174
  have hen := enter224
  clear h hd hl
  by_cases h2 : 2 ≤ n
  · have i1 : ¬ (n : Int) ≤ 1 := by omega
    have i2 : ¬ n ≤ 1 := by omega
    go_enter Try.func124, Try.ntmps124
    go_wp2_with (fail)
    refine (len_any _ n c _).mono ?_
    rintro e w1 ⟨rfl, hw⟩
    replace hw := hw.symm
    subst hw
    go_wp2_with (fail)
    refine (bitsLen_any n hn _).mono ?_
    rintro e w1 ⟨⟨v, rfl⟩, hw⟩
    replace hw := hw.symm
    subst hw
    go_wp2_with (fail)
    refine (pdq_any base g n c _ l _ HR.out HD.out h2 hn).mono ?_
    rintro e w1 ⟨rfl, l', p1, p2, p3, p4⟩
    have H1 := Go.Lib.hid p1
    have H2 := Go.Lib.hid p2
    have H3 := Go.Lib.hid p3
    have H4 := Go.Lib.hid p4
    clear p1 p2 p3 p4
    go_wp2
    go_end0
    exact ⟨rfl, l', H1.out, upto_pairwise H2.out, H3.out, H4.out⟩
  · have i1 : (n : Int) ≤ 1 := by omega
    have i2 : n ≤ 1 := by omega
    go_enter Try.func124, Try.ntmps124
    go_wp2_with (fail)
    refine (len_any _ n c _).mono ?_
    rintro e w1 ⟨rfl, hw⟩
    replace hw := hw.symm
    subst hw
    go_wp2
    refine bodyPost_ret (v := .tuple #[]) (by simp [results, Try.results124, go_sem]) rfl ⟨rfl, l, List.Perm.refl _, ?_, HR.out, Kept.refl _ _⟩
    exact List.pairwise_iff_getElem.2 fun a b ha hb hab => by have := HL.out; omega
end Go.Proofs.Ytahcaoenddapoaa
