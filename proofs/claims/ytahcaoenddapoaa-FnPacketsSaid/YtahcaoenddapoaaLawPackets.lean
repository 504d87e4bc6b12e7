/- FnPackets: for every kind, size and data, the law answers true. No condition. -/
import Derived.Test.YtahcaoenddapoaaUnpk
import Derived.Test.YtahcaoenddapoaaBase
import Derived.Test.YtahcaoenddapoaaSpecPk
import Derived.ProofKit
namespace Go.Proofs.Ytahcaoenddapoaa
open Go.RowKit

set_option maxRecDepth 100000 in
theorem fnPackets_long (K Z : Int) (A : Option Addr) (n c : Nat) (hs : ¬ (n : Int) ≤ 2147483647) (w : World) : Calls Try.prog 5 #[.int .i64 K, .int .i64 Z, .slice A n c] w fun e w' => e = .returned (.bool true) ∧ Fresh w w' := by
  go_enter Try.func5, Try.ntmps5
  go_wp2_with (fail)
  go_ret
  exact ⟨rfl, Kept.refl _ _⟩

set_option maxRecDepth 100000 in
set_option maxHeartbeats 4000000 in
theorem fnPackets_bad (K Z : Int) (A : Option Addr) (n c : Nat) (hs : (n : Int) ≤ 2147483647) (w : World) (hbad : K < 1 ∨ 18 < K ∨ Z < 512 ∨ 32767 < Z ∨ 5000 < (n : Int) ∨ n = 0 ∨ (n : Int) % (Z - 8) = 0) : Calls Try.prog 5 #[.int .i64 K, .int .i64 Z, .slice A n c] w fun e w' => e = .returned (.bool true) ∧ Fresh w w' := by
  have hund : undef = Value.tuple #[] := rfl
  by_cases h1 : K < 1
  · clear hbad
    go_enter Try.func5, Try.ntmps5
    go_wp2_with (fail)
    refine (works_any _).mono ?_
    rintro e w2 ⟨rfl, hF⟩
    go_wp2
    go_ret
    exact ⟨rfl, hF⟩
  by_cases h2 : 18 < K
  · clear hbad
    go_enter Try.func5, Try.ntmps5
    go_wp2_with (fail)
    refine (works_any _).mono ?_
    rintro e w2 ⟨rfl, hF⟩
    go_wp2
    go_ret
    exact ⟨rfl, hF⟩
  by_cases h3 : Z < 512
  · clear hbad
    go_enter Try.func5, Try.ntmps5
    go_wp2_with (fail)
    refine (works_any _).mono ?_
    rintro e w2 ⟨rfl, hF⟩
    go_wp2
    go_ret
    exact ⟨rfl, hF⟩
  by_cases h4 : 32767 < Z
  · clear hbad
    go_enter Try.func5, Try.ntmps5
    go_wp2_with (fail)
    refine (works_any _).mono ?_
    rintro e w2 ⟨rfl, hF⟩
    go_wp2
    go_ret
    exact ⟨rfl, hF⟩
  by_cases h5 : 5000 < (n : Int)
  · clear hbad
    go_enter Try.func5, Try.ntmps5
    go_wp2_with (fail)
    refine (works_any _).mono ?_
    rintro e w2 ⟨rfl, hF⟩
    go_wp2
    go_ret
    exact ⟨rfl, hF⟩
  by_cases h6 : n = 0
  · subst h6
    clear hbad
    go_enter Try.func5, Try.ntmps5
    go_wp2_with (fail)
    refine (works_any _).mono ?_
    rintro e w2 ⟨rfl, hF⟩
    go_wp2
    go_ret
    exact ⟨rfl, hF⟩
  have h7 : (n : Int) % (Z - 8) = 0 := by omega
  have h8 : ¬ (Z - 8 = 0) := by omega
  have h9 : (n : Int).tmod (Z - 8) = 0 := by rw [Int.tmod_eq_emod_of_nonneg (by omega)]; exact h7
  clear hbad
  go_enter Try.func5, Try.ntmps5
  go_wp2_with (fail)
  refine (works_any _).mono ?_
  rintro e w2 ⟨rfl, hF⟩
  go_wp2
  go_ret
  exact ⟨rfl, hF⟩

set_option maxRecDepth 100000 in
set_option maxHeartbeats 4000000 in
theorem fnPackets_good (kind size : Nat) (T : List Nat) (A : Option Addr) (n c : Nat) (w : World) (hx : Bts w (.slice A n c) T) (hb : ∀ b ∈ T, b < 256) (h1 : 1 ≤ kind) (h2 : kind ≤ 18) (h3 : 512 ≤ size) (h4 : size ≤ 32767) (h5 : n ≤ 5000) (h6 : n ≠ 0) (h7 : (n : Int) % ((size : Int) - 8) ≠ 0) :
    Calls Try.prog 5 #[.int .i64 kind, .int .i64 size, .slice A n c] w fun e w' => e = .returned (.bool true) ∧ Fresh w w' := by
  have hnT := hx.len
  have h8 : ¬ ((size : Int) - 8 = 0) := by omega
  have h9 : ¬ (n : Int).tmod ((size : Int) - 8) = 0 := by rw [Int.tmod_eq_emod_of_nonneg (by omega)]; exact h7
  have HNT := Go.Lib.hid hnT
  have HB := Go.Lib.hid hb
  have hTl : T.length ≤ 100000 := by omega
  have hT0 : 0 < T.length := by omega
  clear hnT hb
  go_enter Try.func5, Try.ntmps5
  go_wp2_with (fail)
  refine (specPackets_any kind size (by omega) (by omega) h4 T hTl A n c _ hx).mono ?_
  rintro e w1 ⟨v1, D, rfl, hP, hr1, hF1⟩
  obtain ⟨A1, c1, rfl⟩ := hr1.slice
  have hDl := hP.few (by omega) hTl
  have hDb : ∀ b ∈ D, b < 256 := by
    obtain ⟨k, _, _, rfl⟩ := hP
    exact packed_lt (by omega) HB.out
  have hS := str_all (ps := 32767) hP (by omega) (by omega) hT0
  have HP := Go.Lib.hid hP
  have HS := Go.Lib.hid hS
  have HR1 := Go.Lib.hid hr1
  have HDB := Go.Lib.hid hDb
  clear hP hS hr1 hDb
  go_wp2_with (fail)
  refine (implPackets_any kind size (by omega) h4 (by omega) T D HP.out hTl A n c _ (hx.fresh hF1)).mono ?_
  rintro e w2 ⟨v2, rfl, hr2, hF2⟩
  obtain ⟨A2, c2, rfl⟩ := hr2.slice
  have HR2 := Go.Lib.hid hr2
  clear hr2
  go_wp2_with (fail)
  refine (implUnpack_any kind D T (by omega) HS.out (by omega) (by omega) _ _ _ _ (HR1.out.bts.fresh hF2)).mono ?_
  rintro e w3 ⟨v3, rfl, hr3, hF3⟩
  obtain ⟨A3, c3, rfl⟩ := hr3.slice
  have q1 := str_of ((HR1.out.bts.fresh hF2).fresh hF3) HDB.out
  have q2 := str_of (HR2.out.bts.fresh hF3) HDB.out
  have q3 := str_of hr3.bts HB.out
  have q4 := str_of (((hx.fresh hF1).fresh hF2).fresh hF3) HB.out
  have hund : undef = Value.tuple #[] := rfl
  clear hr3
  go_wp2_with (fail)
  refine (works_any _).mono ?_
  rintro e w4 ⟨rfl, hF4⟩
  go_wp2
  go_ret
  exact ⟨rfl, ((hF1.fresh hF2).fresh hF3).fresh hF4⟩

theorem fnPackets_any (K Z : Int) (A : Option Addr) (n c : Nat) (w : World) (hx : n ≠ 0 → ∃ T : List Nat, Bts w (.slice A n c) T ∧ ∀ b ∈ T, b < 256) :
    Calls Try.prog 5 #[.int .i64 K, .int .i64 Z, .slice A n c] w fun e w' => e = .returned (.bool true) ∧ Fresh w w' := by
  by_cases hs : (n : Int) ≤ 2147483647
  · by_cases hbad : K < 1 ∨ 18 < K ∨ Z < 512 ∨ 32767 < Z ∨ 5000 < (n : Int) ∨ n = 0 ∨ (n : Int) % (Z - 8) = 0
    · exact fnPackets_bad K Z A n c hs w hbad
    · simp only [not_or] at hbad
      obtain ⟨a1, a2, a3, a4, a5, a6, a7⟩ := hbad
      obtain ⟨kind, rfl⟩ : ∃ k : Nat, K = (k : Int) := ⟨K.toNat, by omega⟩
      obtain ⟨size, rfl⟩ : ∃ k : Nat, Z = (k : Int) := ⟨Z.toNat, by omega⟩
      obtain ⟨T, hT, hb⟩ := hx a6
      exact fnPackets_good kind size T A n c w hT hb (by omega) (by omega) (by omega) (by omega) (by omega) a6 a7
  · exact fnPackets_long K Z A n c hs w
end Go.Proofs.Ytahcaoenddapoaa
