/- impl.Mangle, impl.UCS2, and works: the package's texts and passwords, as bytes. -/
import Derived.Test.YthmopakaikhjlaaGreatDoorQuiet
namespace Go.Proofs.YthmopakaikhjlaaGreatDoor
open Go.RowKit

theorem enter26 (args : Array Value) (W : World) : (callFunc 26 args).run Tryz.prog W = .ok (.enter 26 args) W := run_enter Tryz.func26 (by kernel_rfl) (by kernel_rfl) args W

set_option maxRecDepth 100000 in
theorem zzUCS2_any (s : ByteArray) (hs : s.size ≤ 4294967296) (w : World) :
    Calls Tryz.prog 27 #[.string s] w fun e w' => ∃ v, e = .returned v ∧ Row w.heap.size w' v (ucs (runesOf s)) ∧ Fresh w w' := by
  go_enter Tryz.func27, Tryz.ntmps27
  go_wp2_with (fail)
  refine (str_any s hs _).mono ?_
  rintro e w1 ⟨v, rfl, hr, hF⟩
  go_wp2
  go_ret
  exact ⟨v, rfl, hr, hF⟩

set_option maxRecDepth 100000 in
theorem ucs21_any (s : ByteArray) (hs : s.size ≤ 4294967296) (w : World) (p : Nat) (hc : w.cell? ⟨p, 0, none⟩ = some (.string s)) :
    Calls Tryz.prog 26 #[.pointer (some ⟨p, 0, none⟩)] w fun e w' => ∃ v, e = .returned (.tuple #[v, .nilIface]) ∧ Bts w' v (ucs (runesOf s)) ∧ Fresh w w' := by
  go_enter Tryz.func26, Tryz.ntmps26
  go_wp2_with (fail)
  refine (zzUCS2_any s hs _).mono ?_
  rintro e w1 ⟨v, rfl, hr, hF⟩
  go_wp2
  go_ret2
  exact ⟨v, rfl, hr.bts, hF⟩

set_option maxRecDepth 100000 in
theorem implUCS2_any (s : ByteArray) (hs : s.size ≤ 4294967296) (w : World) :
    Calls Tryz.prog 19 #[.string s] w fun e w' => ∃ v, e = .returned v ∧ Row w.heap.size w' v (ucs (runesOf s)) ∧ Fresh w w' := by
  have hmf : ∀ (fn : Fn) (first cap : Array Value) (w : World), (Instr.makeFunc fn first cap).run Tryz.prog w = .ok (.func fn first cap) w := fun _ _ _ _ => rfl
  have hl4 := ucs_few s
  go_enter Tryz.func19, Tryz.ntmps19
  go_wp2_with (fail)
  have hc0 : (w.alloc (.cells #[.string s] 9)).cell? ⟨w.heap.size, 0, none⟩ = some (.string s) := cell_of_row _ _ 0 _ _ _ (heap_alloc_new _ _)
  refine (made_any 26 _ (ucs (runesOf s)) (by omega) _ (enter26 _) (fun W hW => ucs21_any s hs W w.heap.size (hW.held hc0 (fun h => h)))).mono ?_
  rintro e w1 ⟨v, rfl, hr, hF⟩
  go_wp2
  go_ret
  exact ⟨v, rfl, hr.lower (by simp), ((Kept.refl w _).alloc _).fresh hF⟩

/-- 'string(b)' of a row, at this program's types. -/
theorem str_of {w : World} {v : Value} {l : List Nat} (h : Bts w v l) (hl : ∀ b ∈ l, b < 256) : (convert 28 9 v).run Tryz.prog w = .ok (.string (strOf l)) w :=
  h.string hl 28 9 5 Tryz.underlying28 Tryz.underlying5 Tryz.underlying9

set_option maxRecDepth 100000 in
theorem works_any (w : World) : Calls Tryz.prog 6 #[] w fun e w' => e = .returned (.bool true) ∧ Fresh w w' := by
  go_enter Tryz.func6, Tryz.ntmps6
  go_wp2_with (fail)
  refine (implUCS2_any _ (by decide) _).mono ?_
  rintro e w1 ⟨v, rfl, hr, hF⟩
  have e1 : ucs (runesOf { data := #[97] }) = [97, 0] := by decide +kernel
  have hs := str_of hr.bts (ucs_lt _)
  rw [e1] at hs
  have e2 : strOf [97, 0] = { data := #[97, 0] } := by decide +kernel
  rw [e2] at hs
  clear e1 e2
  go_wp2
  go_ret
  exact ⟨rfl, hF⟩
end Go.Proofs.YthmopakaikhjlaaGreatDoor
