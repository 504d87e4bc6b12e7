/- FnMangle: for every text, the law answers true. No condition. -/
import Derived.Test.YtahcaoenddapoaaBase
import Derived.Test.YtahcaoenddapoaaText
import Derived.Deep.RegionWith
import Derived.BigQuiet
import Derived.ProofKit
namespace Go.Proofs.Ytahcaoenddapoaa
open Go.RowKit

theorem mangle_lts {l : List Nat} (h : ∀ b ∈ l, b < 256) : ∀ b ∈ l.map mangle, b < 256 := by
  intro b hb
  obtain ⟨c, hc, rfl⟩ := List.mem_map.1 hb
  have h' : ∀ x : Fin 256, mangle x.val < 256 := by decide +kernel
  exact h' ⟨c, h c hc⟩

set_option maxRecDepth 100000 in
theorem fnMangle_long (s : ByteArray) (hs : ¬ (s.size : Int) ≤ 2147483647) (w : World) : Calls Try.prog 3 #[.string s] w fun e w' => e = .returned (.bool true) ∧ Fresh w w' := by
  go_enter Try.func3, Try.ntmps3
  go_wp2_with (fail)
  go_ret
  exact ⟨rfl, Kept.refl _ _⟩

set_option maxRecDepth 100000 in
set_option maxHeartbeats 4000000 in
theorem fnMangle_no (s : ByteArray) (hs : (s.size : Int) ≤ 2147483647) (ht : textB s = false) (w : World) : Calls Try.prog 3 #[.string s] w fun e w' => e = .returned (.bool true) ∧ Fresh w w' := by
  have HT := Go.Lib.hid ht
  clear ht
  go_enter Try.func3, Try.ntmps3
  go_wp2_with (fail)
  have hund : undef = Value.tuple #[] := rfl
  first
    | go_region_with (first
        | (go_at_call 9; refine (text_any s (by omega) _).mono ?_; rintro e w1 ⟨he, pos, rfl⟩; rw [HT.out] at he; subst he)
        | (go_at_call 10; refine (works_any _).mono ?_; rintro e w2 ⟨rfl, hF⟩))
    | fail
  all_goals
    go_wp2
    go_ret
    exact ⟨rfl, ((Kept.refl w _).drew.alloc _).fresh (by assumption)⟩

set_option maxRecDepth 100000 in
set_option maxHeartbeats 4000000 in
theorem fnMangle_yes (s : ByteArray) (hs : (s.size : Int) ≤ 2147483647) (ht : textB s = true) (w : World) : Calls Try.prog 3 #[.string s] w fun e w' => e = .returned (.bool true) ∧ Fresh w w' := by
  have HT := Go.Lib.hid ht
  clear ht
  have hm := mangle_lts (ucs_lt (runesOf s))
  have HM := Go.Lib.hid hm
  clear hm
  go_enter Try.func3, Try.ntmps3
  go_wp2_with (fail)
  have hund : undef = Value.tuple #[] := rfl
  first
    | go_region_with (first
        | (go_at_call 9; refine (text_any s (by omega) _).mono ?_; rintro e w1 ⟨he, pos, rfl⟩; rw [HT.out] at he; subst he)
        | (go_at_call 10; refine (works_any _).mono ?_; rintro e w2 ⟨rfl, hF⟩)
        | (go_at_call 11; refine (implMangle_any s (by omega) _).mono ?_; rintro e w3 ⟨v, rfl, hr3, hF3⟩; have hs3 : ∀ W, Fresh w3 W → (convert 24 9 v).run Try.prog W = .ok (.string (strOf ((ucs (runesOf s)).map mangle))) W := fun W hW => str_of (hr3.bts.fresh hW) HM.out; have hf3 := Kept.refl w3 (fun _ => False))
        | (go_at_call 12; refine (mangled_any s (by omega) _).mono ?_; rintro e w4 ⟨v4, rfl, hr4, hF4⟩; have hs4 : ∀ W, Fresh w4 W → (convert 24 9 v4).run Try.prog W = .ok (.string (strOf ((ucs (runesOf s)).map mangle))) W := fun W hW => str_of (hr4.bts.fresh hW) HM.out; have hf4 := Kept.refl w4 (fun _ => False)))
    | fail
  all_goals
    go_wp2
    go_ret
    refine ⟨rfl, ((Kept.fresh ?_ hF3).fresh hF4).fresh hF⟩
    repeat (first | exact Kept.refl _ _ | apply Kept.drew | apply Kept.alloc)

theorem fnMangle_any (s : ByteArray) (w : World) : Calls Try.prog 3 #[.string s] w fun e w' => e = .returned (.bool true) ∧ Fresh w w' := by
  by_cases hs : (s.size : Int) ≤ 2147483647
  · cases ht : textB s with
    | true => exact fnMangle_yes s hs ht w
    | false => exact fnMangle_no s hs ht w
  · exact fnMangle_long s hs w
end Go.Proofs.Ytahcaoenddapoaa
