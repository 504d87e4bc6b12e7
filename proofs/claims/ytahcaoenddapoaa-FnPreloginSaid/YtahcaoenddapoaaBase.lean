/- impl.Mangle, impl.UCS2, and works: the package's texts and passwords, as bytes. -/
import Derived.Test.YtahcaoenddapoaaQuiet
namespace Go.Proofs.Ytahcaoenddapoaa
open Go.RowKit

theorem enter33 (args : Array Value) (W : World) : (callFunc 33 args).run Try.prog W = .ok (.enter 33 args) W := run_enter Try.func33 (by kernel_rfl) (by kernel_rfl) args W
theorem enter39 (args : Array Value) (W : World) : (callFunc 39 args).run Try.prog W = .ok (.enter 39 args) W := run_enter Try.func39 (by kernel_rfl) (by kernel_rfl) args W

set_option maxRecDepth 100000 in
theorem zzMangle_any (s : ByteArray) (hs : s.size ≤ 4294967296) (w : World) :
    Calls Try.prog 34 #[.string s] w fun e w' => ∃ v, e = .returned v ∧ Row w.heap.size w' v ((ucs (runesOf s)).map mangle) ∧ Fresh w w' := by
  go_enter Try.func34, Try.ntmps34
  go_wp2_with (fail)
  refine (manglePassword_any s hs _).mono ?_
  rintro e w1 ⟨v, rfl, hr, hF⟩
  go_wp2
  go_ret
  exact ⟨v, rfl, hr, hF⟩

set_option maxRecDepth 100000 in
theorem zzUCS2_any (s : ByteArray) (hs : s.size ≤ 4294967296) (w : World) :
    Calls Try.prog 40 #[.string s] w fun e w' => ∃ v, e = .returned v ∧ Row w.heap.size w' v (ucs (runesOf s)) ∧ Fresh w w' := by
  go_enter Try.func40, Try.ntmps40
  go_wp2_with (fail)
  refine (str_any s hs _).mono ?_
  rintro e w1 ⟨v, rfl, hr, hF⟩
  go_wp2
  go_ret
  exact ⟨v, rfl, hr, hF⟩

set_option maxRecDepth 100000 in
theorem mangle1_any (s : ByteArray) (hs : s.size ≤ 4294967296) (w : World) (p : Nat) (hc : w.cell? ⟨p, 0, none⟩ = some (.string s)) :
    Calls Try.prog 33 #[.pointer (some ⟨p, 0, none⟩)] w fun e w' => ∃ v, e = .returned (.tuple #[v, .nilIface]) ∧ Bts w' v ((ucs (runesOf s)).map mangle) ∧ Fresh w w' := by
  go_enter Try.func33, Try.ntmps33
  go_wp2_with (fail)
  refine (zzMangle_any s hs _).mono ?_
  rintro e w1 ⟨v, rfl, hr, hF⟩
  go_wp2
  go_ret2
  exact ⟨v, rfl, hr.bts, hF⟩

set_option maxRecDepth 100000 in
theorem ucs21_any (s : ByteArray) (hs : s.size ≤ 4294967296) (w : World) (p : Nat) (hc : w.cell? ⟨p, 0, none⟩ = some (.string s)) :
    Calls Try.prog 39 #[.pointer (some ⟨p, 0, none⟩)] w fun e w' => ∃ v, e = .returned (.tuple #[v, .nilIface]) ∧ Bts w' v (ucs (runesOf s)) ∧ Fresh w w' := by
  go_enter Try.func39, Try.ntmps39
  go_wp2_with (fail)
  refine (zzUCS2_any s hs _).mono ?_
  rintro e w1 ⟨v, rfl, hr, hF⟩
  go_wp2
  go_ret2
  exact ⟨v, rfl, hr.bts, hF⟩

set_option maxRecDepth 100000 in
theorem implMangle_any (s : ByteArray) (hs : s.size ≤ 4294967296) (w : World) :
    Calls Try.prog 11 #[.string s] w fun e w' => ∃ v, e = .returned v ∧ Row w.heap.size w' v ((ucs (runesOf s)).map mangle) ∧ Fresh w w' := by
  have hmf : ∀ (fn : Fn) (first cap : Array Value) (w : World), (Instr.makeFunc fn first cap).run Try.prog w = .ok (.func fn first cap) w := fun _ _ _ _ => rfl
  have hl4 := ucs_few s
  go_enter Try.func11, Try.ntmps11
  go_wp2_with (fail)
  have hc0 : (w.alloc (.cells #[.string s] 9)).cell? ⟨w.heap.size, 0, none⟩ = some (.string s) := cell_of_row _ _ 0 _ _ _ (heap_alloc_new _ _)
  refine (made_any 33 _ ((ucs (runesOf s)).map mangle) (by rw [List.length_map]; omega) _ (enter33 _) (fun W hW => mangle1_any s hs W w.heap.size (hW.held hc0 (fun h => h)))).mono ?_
  rintro e w1 ⟨v, rfl, hr, hF⟩
  go_wp2
  go_ret
  exact ⟨v, rfl, hr.lower (by simp), ((Kept.refl w _).alloc _).fresh hF⟩

set_option maxRecDepth 100000 in
theorem implUCS2_any (s : ByteArray) (hs : s.size ≤ 4294967296) (w : World) :
    Calls Try.prog 15 #[.string s] w fun e w' => ∃ v, e = .returned v ∧ Row w.heap.size w' v (ucs (runesOf s)) ∧ Fresh w w' := by
  have hmf : ∀ (fn : Fn) (first cap : Array Value) (w : World), (Instr.makeFunc fn first cap).run Try.prog w = .ok (.func fn first cap) w := fun _ _ _ _ => rfl
  have hl4 := ucs_few s
  go_enter Try.func15, Try.ntmps15
  go_wp2_with (fail)
  have hc0 : (w.alloc (.cells #[.string s] 9)).cell? ⟨w.heap.size, 0, none⟩ = some (.string s) := cell_of_row _ _ 0 _ _ _ (heap_alloc_new _ _)
  refine (made_any 39 _ (ucs (runesOf s)) (by omega) _ (enter39 _) (fun W hW => ucs21_any s hs W w.heap.size (hW.held hc0 (fun h => h)))).mono ?_
  rintro e w1 ⟨v, rfl, hr, hF⟩
  go_wp2
  go_ret
  exact ⟨v, rfl, hr.lower (by simp), ((Kept.refl w _).alloc _).fresh hF⟩

/-- 'string(b)' of a row, at this program's types. -/
theorem str_of {w : World} {v : Value} {l : List Nat} (h : Bts w v l) (hl : ∀ b ∈ l, b < 256) : (convert 24 9 v).run Try.prog w = .ok (.string (strOf l)) w :=
  h.string hl 24 9 5 Try.underlying24 Try.underlying5 Try.underlying9

set_option maxRecDepth 100000 in
theorem works_any (w : World) : Calls Try.prog 10 #[] w fun e w' => e = .returned (.bool true) ∧ Fresh w w' := by
  go_enter Try.func10, Try.ntmps10
  go_wp2_with (fail)
  refine (implUCS2_any _ (by decide) _).mono ?_
  rintro e w1 ⟨v, rfl, hr, hF⟩
  have e1 : ucs (runesOf { data := #[97] }) = [97, 0] := by decide +kernel
  have hs := str_of hr.bts (ucs_lt _)
  rw [e1] at hs
  have e2 : strOf [97, 0] = { data := #[97, 0] } := by decide +kernel
  rw [e2] at hs
  clear e1 e2
  go_wp2
  go_ret
  exact ⟨rfl, hF⟩
end Go.Proofs.Ytahcaoenddapoaa
