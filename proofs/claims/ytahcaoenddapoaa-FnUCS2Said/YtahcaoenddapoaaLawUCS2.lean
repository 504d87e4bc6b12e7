/- FnUCS2: for every text, the law answers true. No condition. -/
import Derived.Test.YtahcaoenddapoaaFrom
import Derived.Deep.RegionWith
import Derived.BigQuiet
import Derived.ProofKit
namespace Go.Proofs.Ytahcaoenddapoaa
open Go.RowKit

set_option maxRecDepth 100000 in
theorem fnUCS2_long (s : ByteArray) (hs : ¬ (s.size : Int) ≤ 2147483647) (w : World) : Calls Try.prog 4 #[.string s] w fun e w' => e = .returned (.bool true) ∧ Fresh w w' := by
  go_enter Try.func4, Try.ntmps4
  go_wp2_with (fail)
  go_ret
  exact ⟨rfl, Kept.refl _ _⟩

set_option maxRecDepth 100000 in
set_option maxHeartbeats 4000000 in
theorem fnUCS2_no (s : ByteArray) (hs : (s.size : Int) ≤ 2147483647) (ht : textB s = false) (w : World) : Calls Try.prog 4 #[.string s] w fun e w' => e = .returned (.bool true) ∧ Fresh w w' := by
  have HT := Go.Lib.hid ht
  clear ht
  go_enter Try.func4, Try.ntmps4
  go_wp2_with (fail)
  refine (text_any s (by omega) _).mono ?_
  rintro e w1 ⟨he, pos, rfl⟩
  rw [HT.out] at he
  subst he
  go_wp2_with (fail)
  refine (works_any _).mono ?_
  rintro e w2 ⟨rfl, hF⟩
  go_wp2
  go_ret
  exact ⟨rfl, ((Kept.refl w _).alloc _).fresh hF⟩

set_option maxRecDepth 100000 in
set_option maxHeartbeats 4000000 in
theorem fnUCS2_yes (s : ByteArray) (hs : (s.size : Int) ≤ 2147483647) (ht : textB s = true) (w : World) : Calls Try.prog 4 #[.string s] w fun e w' => e = .returned (.bool true) ∧ Fresh w w' := by
  have HT := Go.Lib.hid ht
  have hb := text_back s ht
  have hbk : (⟨(Go.Proofs.Ytahcaoenddapoaa.enc (runesOf s)).toArray⟩ : ByteArray) = s := by rw [hb]
  have HB := Go.Lib.hid hbk
  have hfw := text_few s ht
  clear ht hb hbk
  have HM := Go.Lib.hid (ucs_lt (runesOf s))
  go_enter Try.func4, Try.ntmps4
  go_wp2_with (fail)
  refine (text_any s (by omega) _).mono ?_
  rintro e w1 ⟨he, pos, rfl⟩
  rw [HT.out] at he
  subst he
  go_wp2_with (fail)
  refine (ucs2_any s (by omega) _).mono ?_
  rintro e w2 ⟨v2, rfl, hr2, hF2⟩
  obtain ⟨A2, c2, rfl⟩ := hr2.slice
  have HR2 := Go.Lib.hid hr2
  clear hr2
  go_wp2_with (fail)
  refine (implFrom_any (runesOf s) (by omega) (runes_good s _ _) _ _ _ _ HR2.out.bts).mono ?_
  rintro e w3 ⟨rfl, hF3⟩
  rw [HB.out]
  have hf3 := Kept.refl w3.drew (fun _ => False)
  have hs2 : ∀ W, Fresh w3.drew W → (convert 24 9 (.slice A2 (ucs (runesOf s)).length c2)).run Try.prog W = .ok (.string (strOf (ucs (runesOf s)))) W := fun W hW => str_of (((HR2.out.bts.fresh hF3).fresh (Kept.refl w3 _).drew).fresh hW) HM.out
  have hund : undef = Value.tuple #[] := rfl
  go_wp2_with (fail)
  first
    | go_region_with (first
        | (go_at_call 10; refine (works_any _).mono ?_; rintro e w5 ⟨rfl, hF⟩)
        | (go_at_call 15; refine (implUCS2_any s (by omega) _).mono ?_; rintro e w4 ⟨v, rfl, hr4, hF4⟩; have hs4 : ∀ W, Fresh w4 W → (convert 24 9 v).run Try.prog W = .ok (.string (strOf (ucs (runesOf s)))) W := fun W hW => str_of (hr4.bts.fresh hW) HM.out; have hf4 := Kept.refl w4 (fun _ => False)))
    | fail
  all_goals
    go_wp2
    go_ret
    refine ⟨rfl, Kept.fresh (Kept.fresh ?_ hF4) hF⟩
    have hq : Fresh w w3 := (Kept.fresh (Kept.fresh ?_ hF2) hF3)
    · repeat (first | exact hq | apply Kept.drew | apply Kept.alloc)
    · repeat (first | exact Kept.refl _ _ | apply Kept.iterAt | apply Kept.drew | apply Kept.alloc)
end Go.Proofs.Ytahcaoenddapoaa
