/- impl.FromUCS2: units of UTF-16, as bytes, are read back as the text. -/
import Derived.Test.YtahcaoenddapoaaBase
import Derived.Test.YtahcaoenddapoaaBack
import Derived.Test.YtahcaoenddapoaaText
namespace Go.Proofs.Ytahcaoenddapoaa
open Go.RowKit

theorem enter37 (args : Array Value) (W : World) : (callFunc 37 args).run Try.prog W = .ok (.enter 37 args) W := run_enter Try.func37 (by kernel_rfl) (by kernel_rfl) args W

set_option maxRecDepth 100000 in
theorem zzFrom_any (l : List Nat) (hl : l.length ≤ 4294967296) (hg : ∀ r ∈ l, good r) (A : Option Addr) (n c base : Nat) (w : World) (hu : Row base w (.slice A n c) (ucs l)) :
    Calls Try.prog 38 #[.slice A n c] w fun e w' => e = .returned (.tuple #[.string ⟨(enc l).toArray⟩, .nilIface]) ∧ Fresh w w' := by
  have HG := Go.Lib.hid hg
  clear hg
  go_enter Try.func38, Try.ntmps38
  go_wp2_with (fail)
  refine (ucs22str_any l hl HG.out A n c base _ hu).mono ?_
  rintro e w1 ⟨rfl, hF⟩
  go_wp2
  go_ret2
  exact ⟨rfl, hF⟩

set_option maxRecDepth 100000 in
theorem from1_any (l : List Nat) (hl : l.length ≤ 4294967296) (hg : ∀ r ∈ l, good r) (w : World) (pb ps pk : Nat) (A : Option Addr) (n c : Nat) (vs vk : Value)
    (hcb : w.cell? ⟨pb, 0, none⟩ = some (.slice A n c)) (hb : Bts w (.slice A n c) (ucs l)) (hcs : w.cell? ⟨ps, 0, none⟩ = some vs) (hck : w.cell? ⟨pk, 0, none⟩ = some vk) (hfs : w.frozen? ⟨ps, 0, none⟩ = false) (hfk : w.frozen? ⟨pk, 0, none⟩ = false) (hne : ps ≠ pk) :
    Calls Try.prog 37 #[.pointer (some ⟨pb, 0, none⟩), .pointer (some ⟨ps, 0, none⟩), .pointer (some ⟨pk, 0, none⟩)] w fun e w' => e = .returned (.tuple #[]) ∧ w'.cell? ⟨ps, 0, none⟩ = some (.string ⟨(enc l).toArray⟩) ∧ w'.cell? ⟨pk, 0, none⟩ = some (.bool true) ∧ Kept w w' (fun k => k = ps ∨ k = pk) ∧ w'.frozen? ⟨ps, 0, none⟩ = false ∧ w'.frozen? ⟨pk, 0, none⟩ = false := by
  obtain ⟨i0, hi, hz0, hz1, hz2⟩ := info_parts info5
  have hlu := ucs_length l
  have hll := units_length l
  have HG := Go.Lib.hid hg
  clear hg
  have hlen : ([] : List Nat).length + (ucs l).length ≤ 140737488355328 := by simp; omega
  clear hlu hll
  have hlb := World.block_lt_of_cell? w ⟨pb, 0, none⟩ hcb
  have hlo := World.block_lt_of_cell? w ⟨ps, 0, none⟩ hcs
  have hlk := World.block_lt_of_cell? w ⟨pk, 0, none⟩ hck
  have hF1 : Fresh w (w.alloc (.cells #[] 5)) := (Kept.refl w _).alloc _
  have hcb1 := hF1.held hcb (fun h => h)
  go_enter Try.func37, Try.ntmps37
  go_wp2_with (at_builtin; refine wpList_append_bts _ rfl (.tmp 6) (.tmp 7) 24 24 rfl w.heap.size i0 Try.underlying24 Try.underlying24 hi hz0 hz1 hz2 (.slice (some ⟨w.heap.size, 0, none⟩) 0 0) (.slice A n c) rfl rfl [] (ucs l) (Row.empty_new w _ (Nat.le_refl _)) (hb.fresh hF1) hlen (by simp) ?_; intro A' c' w2 hr2 hg2 hm2)
  have hF2 : Fresh w w2 := hF1.trans (Kept.of_grown hg2) (fun k hk e => by simp [Value.ownBlock] at e; omega)
  have hr3 : Row w.heap.size w2 (.slice A' (ucs l).length c') (ucs l) := by simpa using hr2
  have HR := Go.Lib.hid hr3
  clear hr2 hr3
  go_wp2_with (fail)
  refine (zzFrom_any l hl HG.out _ _ _ w.heap.size _ (by simpa using HR.out)).mono ?_
  rintro e w1 ⟨rfl, hF3⟩
  have hF := hF2.fresh hF3
  have hcs1 := hF.held hcs (fun h => h)
  have hck1 := hF.held hck (fun h => h)
  have hfs1 := (hF.frozen (p := ⟨ps, 0, none⟩) hlo (fun h => h)).trans hfs
  have hfk1 := (hF.frozen (p := ⟨pk, 0, none⟩) hlk (fun h => h)).trans hfk
  go_wp2_with (fail)
  go_region
  all_goals
    go_wp2
    go_end0
    refine ⟨rfl, ?_, ?_, ?_, by simpa using hfs1, by simpa using hfk1⟩
    · show World.cell? (World.setCell (World.setCell _ _ _) _ _) _ = _
      rw [World.cell?_setCell_other _ _ _ _ (by intro e; injection e with e; omega)]
      exact World.cell?_setCell_same _ _ _ hcs1
    · show World.cell? (World.setCell (World.setCell _ _ _) _ _) _ = _
      exact World.cell?_setCell_same _ _ (.bool true) ((World.cell?_setCell_other _ _ _ _ (by intro e; injection e with e; omega)).trans hck1)
    · have hK := ((hF.mono (S := fun k => k = ps ∨ k = pk) (fun _ _ h => h.elim)).setCell (p := ⟨ps, 0, none⟩) (.inl (.inl rfl)) (.string ⟨(enc l).toArray⟩)).setCell (p := ⟨pk, 0, none⟩) (.inl (.inr rfl)) (.bool true)
      first | exact hK | exact hK.drew

set_option maxRecDepth 100000 in
theorem implFrom_any (l : List Nat) (hl : l.length ≤ 4294967296) (hg : ∀ r ∈ l, good r) (w : World) (A : Option Addr) (n c : Nat) (hb : Bts w (.slice A n c) (ucs l)) :
    Calls Try.prog 14 #[.slice A n c] w fun e w' => e = .returned (.tuple #[.string ⟨(enc l).toArray⟩, .bool true]) ∧ Fresh w w' := by
  have hmf : ∀ (fn : Fn) (first cap : Array Value) (w : World), (Instr.makeFunc fn first cap).run Try.prog w = .ok (.func fn first cap) w := fun _ _ _ _ => rfl
  have HG := Go.Lib.hid hg
  clear hg
  obtain ⟨c1, c2, c3, f2, f3⟩ := three_cells w (.slice A n c) (.string ⟨#[]⟩) (.bool false) 24 9 4
  have hF0 : Fresh w (((w.alloc (.cells #[.slice A n c] 24)).alloc (.cells #[.string ⟨#[]⟩] 9)).alloc (.cells #[.bool false] 4)) := (((Kept.refl w _).alloc _).alloc _).alloc _
  have hs0 : (((w.alloc (.cells #[.slice A n c] 24)).alloc (.cells #[.string ⟨#[]⟩] 9)).alloc (.cells #[.bool false] 4)).heap.size = w.heap.size + 1 + 1 + 1 := by simp
  go_enter Try.func14, Try.ntmps14
  go_wp2_with (fail)
  generalize hW : (((w.alloc (.cells #[.slice A n c] 24)).alloc (.cells #[.string ⟨#[]⟩] 9)).alloc (.cells #[.bool false] 4)) = W at *
  have HW := Go.Lib.hid hW
  clear hW
  have HS := Go.Lib.hid hs0
  have hsz := hF0.size
  have hk1 : Fresh W (W.alloc (.cells #[.bool false] 4)) := (Kept.refl W _).alloc _
  refine (quietly_any 37 _ (fun w1 => w1.cell? ⟨w.heap.size + 1, 0, none⟩ = some (.string ⟨(enc l).toArray⟩) ∧ w1.cell? ⟨w.heap.size + 1 + 1, 0, none⟩ = some (.bool true) ∧ Kept (W.alloc (.cells #[.bool false] 4)) w1 (fun k => k = w.heap.size + 1 ∨ k = w.heap.size + 1 + 1) ∧ w1.frozen? ⟨w.heap.size + 1, 0, none⟩ = false ∧ w1.frozen? ⟨w.heap.size + 1 + 1, 0, none⟩ = false) _ (enter37 _) ?_).mono ?_
  · refine (from1_any l hl HG.out _ w.heap.size (w.heap.size + 1) (w.heap.size + 1 + 1) _ _ _ _ _ (hk1.held c1 (fun h => h)) ((hb.fresh hF0).fresh hk1) (hk1.held c2 (fun h => h)) (hk1.held c3 (fun h => h)) ?_ ?_ (by omega)).mono ?_
    · exact (hk1.frozen (p := ⟨w.heap.size + 1, 0, none⟩) (by show w.heap.size + 1 < _; omega) (fun h => h)).trans f2
    · exact (hk1.frozen (p := ⟨w.heap.size + 1 + 1, 0, none⟩) (by show w.heap.size + 1 + 1 < _; omega) (fun h => h)).trans f3
    rintro e w1 ⟨rfl, h1, h2, h4, h5, h6⟩
    have hlt : W.heap.size < (W.alloc (.cells #[.bool false] 4)).heap.size := by simp
    have hgb : (W.alloc (.cells #[.bool false] 4)).heap[W.heap.size]? = some (.cells #[.bool false] 4) := heap_alloc_new _ _
    refine ⟨rfl, ⟨h1, h2, h4, h5, h6⟩, ?_, ?_⟩
    · exact (h4.cell (p := ⟨W.heap.size, 0, none⟩) hlt (by show ¬ (W.heap.size = _ ∨ W.heap.size = _); omega)).trans (cell_of_row _ _ 0 _ _ _ hgb)
    · refine (h4.frozen (p := ⟨W.heap.size, 0, none⟩) hlt (by show ¬ (W.heap.size = _ ∨ W.heap.size = _); omega)).trans ?_
      simp only [World.frozen?, hgb]
      rfl
  rintro e w2 ⟨rfl, w1, ⟨h1, h2, h4, h5, h6⟩, hw2⟩
  have hK2 : Kept w w2 (fun k => k = w.heap.size + 1 ∨ k = w.heap.size + 1 + 1) := by
    rw [hw2]
    refine (((hF0.fresh hk1).mono (S := fun k => k = w.heap.size + 1 ∨ k = w.heap.size + 1 + 1) (fun _ _ h => h.elim)).trans h4 (fun _ _ h => h)).setCell (.inr hsz) _
  have hF2 : Fresh w w2 := hK2.mono (fun k hk h => by omega)
  have hne1 : (⟨W.heap.size, 0, none⟩ : Addr) ≠ ⟨w.heap.size + 1, 0, none⟩ := by intro e; injection e with e; omega
  have hne2 : (⟨W.heap.size, 0, none⟩ : Addr) ≠ ⟨w.heap.size + 1 + 1, 0, none⟩ := by intro e; injection e with e; omega
  have d1 : w2.cell? ⟨w.heap.size + 1, 0, none⟩ = some (.string ⟨(enc l).toArray⟩) := by rw [hw2, World.cell?_setCell_other _ _ _ _ hne1]; exact h1
  have d2 : w2.cell? ⟨w.heap.size + 1 + 1, 0, none⟩ = some (.bool true) := by rw [hw2, World.cell?_setCell_other _ _ _ _ hne2]; exact h2
  have d4 : w2.frozen? ⟨w.heap.size + 1, 0, none⟩ = false := by rw [hw2, World.frozen?_setCell]; exact h5
  have d5 : w2.frozen? ⟨w.heap.size + 1 + 1, 0, none⟩ = false := by rw [hw2, World.frozen?_setCell]; exact h6
  clear hw2 h1 h2 h4 h5 h6 hk1 c1 c2 c3 f2 f3 hne1 hne2 hF0
  go_wp2
  have e1 : ((w2.setCell ⟨w.heap.size + 1, 0, none⟩ (.string ⟨(enc l).toArray⟩)).setCell ⟨w.heap.size + 1 + 1, 0, none⟩ (.bool true)).cell? ⟨w.heap.size + 1, 0, none⟩ = some (.string ⟨(enc l).toArray⟩) := by
    rw [World.cell?_setCell_other _ _ _ _ (by intro e; injection e with e; omega)]
    exact World.cell?_setCell_same w2 _ _ d1
  have e2 : ((w2.setCell ⟨w.heap.size + 1, 0, none⟩ (.string ⟨(enc l).toArray⟩)).setCell ⟨w.heap.size + 1 + 1, 0, none⟩ (.bool true)).cell? ⟨w.heap.size + 1 + 1, 0, none⟩ = some (.bool true) :=
    World.cell?_setCell_same _ _ (.bool true) ((World.cell?_setCell_other w2 _ _ _ (by intro e; injection e with e; omega)).trans d2)
  refine bodyPost_ret (v := .tuple #[.string ⟨(enc l).toArray⟩, .bool true]) (by simp [results, Try.results14, go_sem, e1, e2]) rfl ⟨rfl, ?_⟩
  exact (hF2.setCell (p := ⟨w.heap.size + 1, 0, none⟩) (.inr (by show w.heap.size ≤ w.heap.size + 1; omega)) _).setCell (p := ⟨w.heap.size + 1 + 1, 0, none⟩) (.inr (by show w.heap.size ≤ w.heap.size + 1 + 1; omega)) _
end Go.Proofs.Ytahcaoenddapoaa
