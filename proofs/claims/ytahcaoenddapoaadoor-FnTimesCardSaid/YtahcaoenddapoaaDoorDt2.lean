/- Dates and times are encoded. -/
import Derived.Test.YtahcaoenddapoaaDoorEti
namespace Go.Proofs.YtahcaoenddapoaaDoor
open Go.RowKit

theorem rep_three (k : Nat) : List.replicate (3 + k) 0 = 0 :: 0 :: 0 :: List.replicate k 0 := by rw [Nat.add_comm]; rfl
theorem rep_four (k : Nat) : List.replicate (4 + k) 0 = 0 :: 0 :: 0 :: 0 :: List.replicate k 0 := by rw [Nat.add_comm]; rfl
theorem rep_five (k : Nat) : List.replicate (5 + k) 0 = 0 :: 0 :: 0 :: 0 :: 0 :: List.replicate k 0 := by rw [Nat.add_comm]; rfl

theorem leB_three (t : Nat) : leB t 3 = [t % 256, t / 256 % 256, t / 65536 % 256] := by simp [leB, List.range_succ]
theorem leB_four (t : Nat) : leB t 4 = [t % 256, t / 256 % 256, t / 65536 % 256, t / 16777216 % 256] := by simp [leB, List.range_succ]
theorem leB_five (t : Nat) : leB t 5 = [t % 256, t / 256 % 256, t / 65536 % 256, t / 16777216 % 256, t / 4294967296 % 256] := by simp [leB, List.range_succ]

theorem timed_eq (s t k : Nat) : timed (List.replicate (tsz s + k) 0) t s = leB t (tsz s) ++ List.replicate k 0 := by
  unfold timed tsz
  by_cases h2 : s ≤ 2
  · rw [if_pos h2, rep_three, leB_three, if_neg (by omega), if_neg (by omega)]
    rfl
  · rw [if_neg h2]
    by_cases h4 : s ≤ 4
    · rw [if_pos h4, rep_four, leB_four, if_neg (by omega), if_pos (by omega)]
      rfl
    · rw [if_neg h4, rep_five, leB_five, if_pos (by omega), if_pos (by omega)]
      rfl

theorem TS.drew {W w1 : World} {b : Nat} {x y z : Value} (h : TS W b x y z w1) : TS W b x y z w1.drew := ⟨h.1, h.2.1, h.2.2.1, h.2.2.2.drew⟩

theorem greg_of {E : Nat} (hE : E / 86400 ≤ 3652058) : 1 ≤ yr (absD (E / 86400)) ∧ yr (absD (E / 86400)) ≤ 20000 ∧ 1 ≤ yd (absD (E / 86400)) ∧ yd (absD (E / 86400)) ≤ 1000 ∧ gdays (yr (absD (E / 86400))) (yd (absD (E / 86400))) = E / 86400 := by
  have h := greg (E / 86400) (by omega)
  exact ⟨h.1, by omega, h.2.2.1, by omega, h.2.2.2.2⟩

set_option maxRecDepth 100000 in
set_option maxHeartbeats 1000000 in
theorem dateTime2_any (n E : Nat) (hn : n < 1000000000) (hE : E / 86400 ≤ 3652058) (w : World) : Calls Tryd.prog 54 #[tv n E (.pointer none)] w fun e w' => e = .returned (.tuple #[.int .i64 ((E / 86400 : Nat) : Int), .int .i64 ((E % 86400 : Nat) : Int), .int .i64 (n : Int)]) ∧ Fresh w w' := by
  have hn2 : n < 1073741824 := by omega
  have hE4 : E ≤ 400000000000 := by omega
  obtain ⟨y1, y2, d1, d2, hg⟩ := greg_of hE
  have hsec : ((E : Int) % 60) + ((E : Int) % 3600 / 60) * 60 + ((E : Int) % 86400 / 3600) * 60 * 60 = (E : Int) % 86400 := by omega
  have hT0 := T3.new w (.int .u64 (n : Int)) (.int .i64 (E : Int)) (.pointer none) 51
  have hF0 : Fresh w (w.alloc (.cells #[.int .u64 (n : Int), .int .i64 (E : Int), .pointer none] 51)) := (Kept.refl w _).alloc _
  have HSE := Go.Lib.hid hsec
  have s1 : ((E : Int) % 60) ≤ 59 := by omega
  have s2 : ((E : Int) % 3600 / 60) ≤ 59 := by omega
  have s3 : ((E : Int) % 86400 / 3600) ≤ 23 := by omega
  have s10 : (0 : Int) ≤ ((E : Int) % 60) := by omega
  have s20 : (0 : Int) ≤ ((E : Int) % 3600 / 60) := by omega
  have s30 : (0 : Int) ≤ ((E : Int) % 86400 / 3600) := by omega
  have hd : (E : Int) / 86400 ≤ 3652058 := by omega
  have hd0 : (0 : Int) ≤ (E : Int) / 86400 := by omega
  have HE := Go.Lib.hid hE4
  have HN := Go.Lib.hid hn2
  have HG := Go.Lib.hid hg
  have hmax : gdays 9999 365 = 3652058 := by decide
  clear hn hE hE4 hn2 hsec hg
  go_enter Tryd.func54, Tryd.ntmps54
  go_wp2_with (fail)
  generalize (w.alloc (.cells #[.int .u64 (n : Int), .int .i64 (E : Int), .pointer none] 51)) = W at *
  have HT := Go.Lib.hid hT0
  clear hT0
  go_region_held3 (fun w' => w'.cell? ⟨w.heap.size, 0, none⟩ = some (.int .u64 (n : Int)) ∧ w'.cell? ⟨w.heap.size, 1, none⟩ = some (.int .i64 (E : Int)) ∧ w'.cell? ⟨w.heap.size, 2, none⟩ = some (.pointer none) ∧ Fresh W w')
    (first | exact TS.start HT.out | exact TS.same (by assumption) | exact TS.fresh (by assumption) (by assumption))
    (first
      | (go_at_call 65; refine (Year_any n E HN.out HE.out _).mono ?_; rintro e w' ⟨rfl, hF⟩)
      | (go_at_call 66; refine (YearDay_any n E HN.out HE.out _).mono ?_; rintro e w' ⟨rfl, hF⟩)
      | (go_at_call 64; refine (gregorian_any _ _ y1 y2 d1 d2 _).mono ?_; rintro e w' ⟨rfl, rfl⟩))
  rename_i hA
  rw [HG.out]
  go_wp2_with (fail)
  have i60 : ∀ x : Int, 0 ≤ x → x ≤ 86400 → IntKind.i64.wrap (x * 60) = x * 60 := fun x h0 h1 => IntWalk.i64_in _ (by omega)
  have w1 := i60 _ s20 (by omega)
  have w3 := i60 _ s30 (by omega)
  have w4 := i60 (((E : Int) % 86400 / 3600) * 60) (by omega) (by omega)
  have w2 : IntKind.i64.wrap (((E : Int) % 60) + ((E : Int) % 3600 / 60) * 60) = ((E : Int) % 60) + ((E : Int) % 3600 / 60) * 60 := IntWalk.i64_in _ (by omega)
  have w5 : IntKind.i64.wrap (((E : Int) % 60) + ((E : Int) % 3600 / 60) * 60 + ((E : Int) % 86400 / 3600) * 60 * 60) = ((E : Int) % 60) + ((E : Int) % 3600 / 60) * 60 + ((E : Int) % 86400 / 3600) * 60 * 60 := IntWalk.i64_in _ (by omega)
  clear i60 s1 s2 s3 s10 s20 s30
  go_region_held3 (fun w' => w'.cell? ⟨w.heap.size, 0, none⟩ = some (.int .u64 (n : Int)) ∧ w'.cell? ⟨w.heap.size, 1, none⟩ = some (.int .i64 (E : Int)) ∧ w'.cell? ⟨w.heap.size, 2, none⟩ = some (.pointer none) ∧ Fresh W w')
    (first | exact TS.drew hA | exact TS.same (by assumption) | exact TS.fresh (by assumption) (by assumption))
    (first
      | (go_at_call 67; refine (Second_any n E HN.out HE.out _).mono ?_; rintro e w' ⟨rfl, hF⟩)
      | (go_at_call 68; refine (Minute_any n E HN.out HE.out _).mono ?_; rintro e w' ⟨rfl, hF⟩)
      | (go_at_call 69; refine (Hour_any n E HN.out HE.out _).mono ?_; rintro e w' ⟨rfl, hF⟩))
  rename_i hB
  have hsec := HSE.out
  have hB0 := hB.1
  have hB1 := hB.2.1
  have hB2 := hB.2.2.1
  have HFB := Go.Lib.hid hB.2.2.2
  clear hB hA
  rw [hsec]
  clear w1 w2 w3 w4 w5
  go_wp2_with (fail)
  refine (Nanosecond_any n E HN.out _).mono ?_
  rintro e w5 ⟨rfl, hF5⟩
  go_wp2_with (fail)
  refine (gregorian_any 9999 365 (by decide) (by decide) (by decide) (by decide) _).mono ?_
  rintro e w6 ⟨rfl, rfl⟩
  rw [hmax]
  go_wp2
  go_ret3
  exact ⟨rfl, (hF0.fresh HFB.out).fresh hF5⟩
end Go.Proofs.YtahcaoenddapoaaDoor
