/- keySlice's methods, and the insertion sort over them. -/
import Derived.Test.YtahcaoenddapoaaCopy
import Derived.Test.YtahcaoenddapoaaPut
import Derived.Test.YtahcaoenddapoaaIso
import Derived.Deep.QuietTactic
import Derived.BigQuiet
import Derived.Deep.RegionWith
import Derived.Deep.RegionHeld3
namespace Go.Proofs.Ytahcaoenddapoaa
open Go.RowKit

set_option maxRecDepth 100000 in
theorem len_any (A : Option Addr) (n c : Nat) (w : World) : Calls Try.prog 224 #[.slice A n c] w fun e w' => e = .returned (.int .i64 n) ∧ w' = w := by
  go_enter Try.func224, Try.ntmps224
  go_wp2
  go_ret
  exact ⟨rfl, rfl⟩

set_option maxRecDepth 100000 in
theorem less_any (base g n c i j : Nat) (l : List Nat) (w : World) (h : Row base w (.slice (some ⟨g, 0, none⟩) n c) l) (hi : i < l.length) (hj : j < l.length) :
    Calls Try.prog 225 #[.slice (some ⟨g, 0, none⟩) n c, .int .i64 i, .int .i64 j] w fun e w' => e = .returned (.bool (decide (l[i] < l[j]))) ∧ ∃ q, w' = w.drewN q := by
  have hn := h.len
  have h1 := h.cellAt i hi
  have h2 := h.cellAt j hj
  have i1 : (i : Int) < (n : Int) := by omega
  have i2 : (j : Int) < (n : Int) := by omega
  generalize l[i] = x at *
  generalize l[j] = y at *
  have HN := Go.Lib.hid hn
  clear hn
  go_enter Try.func225, Try.ntmps225
  go_wp2_with (fail)
  go_quiet (fail)
  go_wp2
  go_ret
  exact ⟨by simp, _, rfl⟩

set_option maxRecDepth 100000 in
theorem swap_any (base g n c i j : Nat) (l : List Nat) (w : World) (h : Row base w (.slice (some ⟨g, 0, none⟩) n c) l) (hb : i < l.length ∧ j < l.length) (hij : i ≠ j) :
    Calls Try.prog 226 #[.slice (some ⟨g, 0, none⟩) n c, .int .i64 i, .int .i64 j] w fun e w' => e = .returned (.tuple #[]) ∧ Row base w' (.slice (some ⟨g, 0, none⟩) n c) (swapAt l i j hb) ∧ Kept w w' (fun k => k = g) := by
  have hn := h.len
  have h1 := h.cellAt i hb.1
  have h2 := h.cellAt j hb.2
  have f1 := h.frozenAt i
  have f2 := h.frozenAt j
  have i1 : (i : Int) < (n : Int) := by omega
  have i2 : (j : Int) < (n : Int) := by omega
  have HS : Go.RowKit.Hid (swapAt l i j hb = (l.set i l[j]).set j l[i]) := Go.Lib.hid rfl
  have HR := Go.Lib.hid h
  generalize l[i] = x at *
  generalize l[j] = y at *
  have HN := Go.Lib.hid hn
  clear hn
  go_enter Try.func226, Try.ntmps226
  go_wp2_with (fail)
  first
    | go_region_with (fail)
    | fail
  all_goals
    go_end0
    refine ⟨rfl, ?_, ?_⟩
    · rw [HS.out]
      exact RowK.fresh ((HR.out.stored i y).stored j x) ((Kept.refl _ (fun _ => False)).drew)
    · exact (((Kept.refl w (fun k => k = g)).setCell (p := ⟨g, i, none⟩) (.inl rfl) _).setCell (p := ⟨g, j, none⟩) (.inl rfl) _).drew
end Go.Proofs.Ytahcaoenddapoaa
