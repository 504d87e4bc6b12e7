/- The walks of impl.quietly and impl.made: what they hand on does not panic. -/
import Derived.Test.YthmopakaikhjlaaGreatDoorStr
import Derived.Defers
import Derived.Recover
import Derived.Laws.Pointers
import Derived.WideLaws
namespace Go.Proofs.YthmopakaikhjlaaGreatDoor
open Go.RowKit

theorem catch_idle (p : Addr) (w : World) :
    CallsD Tryz.prog 41 #[.pointer (some p)] .returning w fun e u' w' => e = .returned (.tuple #[]) ∧ u' = .returning ∧ w' = w := by
  refine callsD_of_wpS Tryz.func41 rfl fun c₀ cs hu => ?_
  apply wpS_seq
  apply wpS_region
  simp [wpOpsS, go_sem, recoverD, hu, Tryz.ntmps41, Exit.thenS]
  refine wpS_cond (t := false) (by simp [Act.eval, Array.replicate]) ?_
  simp only [Bool.false_eq_true, if_false]
  refine wpS_of_wp (wp_skip ?_)
  cases c₀
  simp_all [bodyPostS, results, Tryz.results41]

set_option maxRecDepth 100000 in
theorem quietly_any (F : Nat) (caps : Array Value) (Q : World → Prop) (w : World) (henter : ∀ W : World, (callFunc F caps).run Tryz.prog W = .ok (.enter F caps) W)
    (hcall : Calls Tryz.prog F caps (w.alloc (.cells #[.bool false] 4)) fun e w' => e = .returned (.tuple #[]) ∧ Q w' ∧ w'.cell? ⟨w.heap.size, 0, none⟩ = some (.bool false) ∧ w'.frozen? ⟨w.heap.size, 0, none⟩ = false) :
    Calls Tryz.prog 28 #[.func (.func F) #[] caps] w fun e w' => e = .returned (.bool true) ∧ ∃ w1, Q w1 ∧ w' = w1.setCell ⟨w.heap.size, 0, none⟩ (.bool true) := by
  have hmf : ∀ (fn : Fn) (first cap : Array Value) (w : World), (Instr.makeFunc fn first cap).run Tryz.prog w = .ok (.func fn first cap) w := fun _ _ _ _ => rfl
  go_enter_defers Tryz.func28, Tryz.ntmps28
  go_wp2_with (fail)
  refine hcall.mono ?_
  rintro e w1 ⟨rfl, hq, hc1, hf1⟩
  go_wp2_with (fail)
  refine leaves_cons (f := 41) (args := #[.pointer (some ⟨w.heap.size, 0, none⟩)]) (by simp) (by simp [go_sem]) ?_
  refine (catch_idle ⟨w.heap.size, 0, none⟩ _).mono ?_
  rintro e u' w'' ⟨rfl, rfl, rfl⟩
  simp [Leaves, settle, results, Tryz.results28, go_sem, hc1]
  exact ⟨w1, hq, rfl⟩

theorem Row.empty_new (w : World) (base : Nat) (hb : base ≤ w.heap.size) : Row base (w.alloc (.cells #[] 5)) (.slice (some ⟨w.heap.size, 0, none⟩) 0 0) [] :=
  ⟨rfl, .inr ⟨w.heap.size, 0, #[], rfl, hb, heap_alloc_new _ _, Nat.le_refl _, Nat.zero_le _, rfl, rfl⟩⟩

set_option maxRecDepth 100000 in
theorem made1_any (F : Nat) (caps : Array Value) (l : List Nat) (hl : l.length ≤ 140737488355328) (w : World) (pf po pk : Nat) (vo vk : Value) (henter : ∀ W : World, (callFunc F caps).run Tryz.prog W = .ok (.enter F caps) W)
    (hcf : w.cell? ⟨pf, 0, none⟩ = some (.func (.func F) #[] caps)) (hco : w.cell? ⟨po, 0, none⟩ = some vo) (hck : w.cell? ⟨pk, 0, none⟩ = some vk) (hfo : w.frozen? ⟨po, 0, none⟩ = false) (hfk : w.frozen? ⟨pk, 0, none⟩ = false) (hne : po ≠ pk)
    (hcall : Calls Tryz.prog F caps w fun e w' => ∃ b, e = .returned (.tuple #[b, .nilIface]) ∧ Bts w' b l ∧ Fresh w w') :
    Calls Tryz.prog 29 #[.pointer (some ⟨pf, 0, none⟩), .pointer (some ⟨po, 0, none⟩), .pointer (some ⟨pk, 0, none⟩)] w fun e w' => e = .returned (.tuple #[]) ∧ ∃ v, w'.cell? ⟨po, 0, none⟩ = some v ∧ w'.cell? ⟨pk, 0, none⟩ = some (.bool true) ∧ Row w.heap.size w' v l ∧ Kept w w' (fun k => k = po ∨ k = pk) ∧ w'.frozen? ⟨po, 0, none⟩ = false ∧ w'.frozen? ⟨pk, 0, none⟩ = false := by
  obtain ⟨i0, hi, hz0, hz1, hz2⟩ := info_parts info5
  go_enter Tryz.func29, Tryz.ntmps29
  go_wp2_with (fail)
  refine hcall.mono ?_
  rintro e w1 ⟨b, rfl, hb, hF⟩
  have hlo := World.block_lt_of_cell? w ⟨po, 0, none⟩ hco
  have hlk := World.block_lt_of_cell? w ⟨pk, 0, none⟩ hck
  have hco1 := hF.held hco (fun h => h)
  have hck1 := hF.held hck (fun h => h)
  have hfo1 := (hF.frozen (p := ⟨po, 0, none⟩) hlo (fun h => h)).trans hfo
  have hfk1 := (hF.frozen (p := ⟨pk, 0, none⟩) hlk (fun h => h)).trans hfk
  go_wp2_with (fail)
  go_region_law (refine step_append_bts _ rfl (.tmp 10) (.tmp 11) 28 28 rfl w.heap.size i0 Tryz.underlying28 Tryz.underlying28 hi hz0 hz1 hz2 (.slice (some ⟨w1.heap.size, 0, none⟩) 0 0) b rfl rfl [] l (by exact (Row.empty_new w1 _ hF.size).fresh (Kept.refl _ _).drew) (by exact hb.fresh ((Kept.refl w1 _).alloc _).drew) (by simpa using hl) (by have := hF.size; simp; omega) ?_; intro A' c' w2 hr2 hg2 hm2; have hF2 : Fresh w1 w2 := (((Kept.refl w1 _).alloc _).drew).trans (Kept.of_grown hg2) (fun k hk e => by simp [Value.ownBlock] at e; omega); have hco2 := hF2.held hco1 (fun h => h); have hck2 := hF2.held hck1 (fun h => h); have hfo2 := (hF2.frozen (p := ⟨po, 0, none⟩) (Nat.lt_of_lt_of_le hlo hF.size) (fun h => h)).trans hfo1; have hfk2 := (hF2.frozen (p := ⟨pk, 0, none⟩) (Nat.lt_of_lt_of_le hlk hF.size) (fun h => h)).trans hfk1)
  all_goals
    go_wp2
    go_end0
    have hr3 : Row w.heap.size w2 (.slice A' l.length c') l := by simpa using hr2
    have hbk : ∀ k, (Value.slice A' l.length c').ownBlock = some k → w1.heap.size ≤ k := fun k hk => by
      rcases hm2 k (by simpa using hk) with h | h
      · simp [Value.ownBlock] at h; omega
      · simp at h; omega
    have hsz := hF.size
    refine ⟨rfl, .slice A' l.length c', ?_, ?_, ?_, ?_, by simpa using hfo2, by simpa using hfk2⟩
    · rw [World.cell?_setCell_other _ _ _ _ (by intro e; injection e with e; omega)]
      exact World.cell?_setCell_same w2 _ _ hco2
    · exact World.cell?_setCell_same _ _ (.bool true) ((World.cell?_setCell_other w2 _ _ _ (by intro e; injection e with e; omega)).trans hck2)
    · exact (hr3.kept ((Kept.refl w2 (fun k => k = po ∨ k = pk)).setCell (p := ⟨po, 0, none⟩) (.inl (.inl rfl)) (.slice A' l.length c')) (fun k hk e => by have := hbk k hk; omega)).kept
        ((Kept.refl _ (fun k => k = po ∨ k = pk)).setCell (p := ⟨pk, 0, none⟩) (.inl (.inr rfl)) (.bool true)) (fun k hk e => by have := hbk k hk; omega)
    · exact (((hF.fresh hF2).mono (S := fun k => k = po ∨ k = pk) (fun _ _ h => h.elim)).setCell (p := ⟨po, 0, none⟩) (.inl (.inl rfl)) _).setCell (p := ⟨pk, 0, none⟩) (.inl (.inr rfl)) _

theorem run_enter {P : Program} {f : FuncId} {fn : Func} (hf : P.funcs[f]? = some fn) (hname : (fn.name == "runtime.NumGoroutine") = false) (hb : fn.body.isNone = false) (args : Array Value) (W : World) :
    (callFunc f args).run P W = .ok (.enter f args) W := by
  cases hbb : fn.body with
  | none => rw [hbb] at hb; cases hb
  | some c =>
    simp only [beq_eq_false_iff_ne, ne_eq] at hname
    simp [callFunc, Sem.run_bind, hf, hbb, hname]
theorem enter29 (args : Array Value) (W : World) : (callFunc 29 args).run Tryz.prog W = .ok (.enter 29 args) W := run_enter Tryz.func29 (by kernel_rfl) (by kernel_rfl) args W

theorem three_cells (w : World) (a b c : Value) (ta tb tc : TypeId) :
    (((w.alloc (.cells #[a] ta)).alloc (.cells #[b] tb)).alloc (.cells #[c] tc)).cell? ⟨w.heap.size, 0, none⟩ = some a ∧
    (((w.alloc (.cells #[a] ta)).alloc (.cells #[b] tb)).alloc (.cells #[c] tc)).cell? ⟨w.heap.size + 1, 0, none⟩ = some b ∧
    (((w.alloc (.cells #[a] ta)).alloc (.cells #[b] tb)).alloc (.cells #[c] tc)).cell? ⟨w.heap.size + 1 + 1, 0, none⟩ = some c ∧
    (((w.alloc (.cells #[a] ta)).alloc (.cells #[b] tb)).alloc (.cells #[c] tc)).frozen? ⟨w.heap.size + 1, 0, none⟩ = false ∧
    (((w.alloc (.cells #[a] ta)).alloc (.cells #[b] tb)).alloc (.cells #[c] tc)).frozen? ⟨w.heap.size + 1 + 1, 0, none⟩ = false := by
  refine ⟨?_, ?_, ?_, ?_, ?_⟩ <;> simp [go_sem, World.cell?_alloc_past]

set_option maxRecDepth 100000 in
theorem made_any (F : Nat) (caps : Array Value) (l : List Nat) (hl : l.length ≤ 140737488355328) (w : World) (henter : ∀ W : World, (callFunc F caps).run Tryz.prog W = .ok (.enter F caps) W)
    (hcall : ∀ W : World, Fresh w W → Calls Tryz.prog F caps W fun e w' => ∃ b, e = .returned (.tuple #[b, .nilIface]) ∧ Bts w' b l ∧ Fresh W w') :
    Calls Tryz.prog 20 #[.func (.func F) #[] caps] w fun e w' => ∃ v, e = .returned (.tuple #[v, .bool true]) ∧ Row w.heap.size w' v l ∧ Fresh w w' := by
  have hmf : ∀ (fn : Fn) (first cap : Array Value) (w : World), (Instr.makeFunc fn first cap).run Tryz.prog w = .ok (.func fn first cap) w := fun _ _ _ _ => rfl
  have HC := Go.Lib.hid hcall
  clear hcall
  obtain ⟨c1, c2, c3, f2, f3⟩ := three_cells w (.func (.func F) #[] caps) (.slice none 0 0) (.bool false) 50 28 4
  have hF0 : Fresh w (((w.alloc (.cells #[.func (.func F) #[] caps] 50)).alloc (.cells #[.slice none 0 0] 28)).alloc (.cells #[.bool false] 4)) := (((Kept.refl w _).alloc _).alloc _).alloc _
  have hs0 : (((w.alloc (.cells #[.func (.func F) #[] caps] 50)).alloc (.cells #[.slice none 0 0] 28)).alloc (.cells #[.bool false] 4)).heap.size = w.heap.size + 1 + 1 + 1 := by simp
  go_enter Tryz.func20, Tryz.ntmps20
  go_wp2_with (fail)
  generalize hW : (((w.alloc (.cells #[.func (.func F) #[] caps] 50)).alloc (.cells #[.slice none 0 0] 28)).alloc (.cells #[.bool false] 4)) = W at *
  have HW := Go.Lib.hid hW
  clear hW
  have HS := Go.Lib.hid hs0
  have hsz := hF0.size
  have hk1 : Fresh W (W.alloc (.cells #[.bool false] 4)) := (Kept.refl W _).alloc _
  refine (quietly_any 29 _ (fun w1 => ∃ v, w1.cell? ⟨w.heap.size + 1, 0, none⟩ = some v ∧ w1.cell? ⟨w.heap.size + 1 + 1, 0, none⟩ = some (.bool true) ∧ Row (W.alloc (.cells #[.bool false] 4)).heap.size w1 v l ∧ Kept (W.alloc (.cells #[.bool false] 4)) w1 (fun k => k = w.heap.size + 1 ∨ k = w.heap.size + 1 + 1) ∧ w1.frozen? ⟨w.heap.size + 1, 0, none⟩ = false ∧ w1.frozen? ⟨w.heap.size + 1 + 1, 0, none⟩ = false) _ (enter29 _) ?_).mono ?_
  · refine (made1_any F caps l hl _ w.heap.size (w.heap.size + 1) (w.heap.size + 1 + 1) _ _ henter (hk1.held c1 (fun h => h)) (hk1.held c2 (fun h => h)) (hk1.held c3 (fun h => h)) ?_ ?_ (by omega) (HC.out _ (hF0.fresh hk1))).mono ?_
    · exact (hk1.frozen (p := ⟨w.heap.size + 1, 0, none⟩) (by show w.heap.size + 1 < _; omega) (fun h => h)).trans f2
    · exact (hk1.frozen (p := ⟨w.heap.size + 1 + 1, 0, none⟩) (by show w.heap.size + 1 + 1 < _; omega) (fun h => h)).trans f3
    rintro e w1 ⟨rfl, v, h1, h2, h3, h4, h5, h6⟩
    have hlt : W.heap.size < (W.alloc (.cells #[.bool false] 4)).heap.size := by simp
    have hgb : (W.alloc (.cells #[.bool false] 4)).heap[W.heap.size]? = some (.cells #[.bool false] 4) := heap_alloc_new _ _
    refine ⟨rfl, ⟨v, h1, h2, h3, h4, h5, h6⟩, ?_, ?_⟩
    · exact (h4.cell (p := ⟨W.heap.size, 0, none⟩) hlt (by show ¬ (W.heap.size = _ ∨ W.heap.size = _); omega)).trans (cell_of_row _ _ 0 _ _ _ hgb)
    · refine (h4.frozen (p := ⟨W.heap.size, 0, none⟩) hlt (by show ¬ (W.heap.size = _ ∨ W.heap.size = _); omega)).trans ?_
      simp only [World.frozen?, hgb]
      rfl
  rintro e w2 ⟨rfl, w1, ⟨v, h1, h2, h3, h4, h5, h6⟩, hw2⟩
  obtain ⟨A, c, rfl⟩ := h3.slice
  have hbk : ∀ k, (Value.slice A l.length c).ownBlock = some k → W.heap.size < k := fun k hk => by
    have := (h3.block k hk).1
    simp at this
    omega
  have hK2 : Kept w w2 (fun k => k = w.heap.size + 1 ∨ k = w.heap.size + 1 + 1) := by
    rw [hw2]
    refine (((hF0.fresh hk1).mono (S := fun k => k = w.heap.size + 1 ∨ k = w.heap.size + 1 + 1) (fun _ _ h => h.elim)).trans h4 (fun _ _ h => h)).setCell (.inr hsz) _
  have hF2 : Fresh w w2 := hK2.mono (fun k hk h => by omega)
  have hne1 : (⟨W.heap.size, 0, none⟩ : Addr) ≠ ⟨w.heap.size + 1, 0, none⟩ := by intro e; injection e with e; omega
  have hne2 : (⟨W.heap.size, 0, none⟩ : Addr) ≠ ⟨w.heap.size + 1 + 1, 0, none⟩ := by intro e; injection e with e; omega
  have d1 : w2.cell? ⟨w.heap.size + 1, 0, none⟩ = some (.slice A l.length c) := by rw [hw2, World.cell?_setCell_other _ _ _ _ hne1]; exact h1
  have d2 : w2.cell? ⟨w.heap.size + 1 + 1, 0, none⟩ = some (.bool true) := by rw [hw2, World.cell?_setCell_other _ _ _ _ hne2]; exact h2
  have d3 : Row w.heap.size w2 (.slice A l.length c) l := by
    rw [hw2]
    exact (h3.lower (by simp; omega)).kept ((Kept.refl w1 (fun k => k = W.heap.size)).setCell (p := ⟨W.heap.size, 0, none⟩) (.inl rfl) _) (fun k hk e => by have := hbk k hk; omega)
  have d4 : w2.frozen? ⟨w.heap.size + 1, 0, none⟩ = false := by rw [hw2, World.frozen?_setCell]; exact h5
  have d5 : w2.frozen? ⟨w.heap.size + 1 + 1, 0, none⟩ = false := by rw [hw2, World.frozen?_setCell]; exact h6
  clear hw2 h1 h2 h3 h4 h5 h6 hk1 c1 c2 c3 f2 f3 hne1 hne2 henter hF0
  go_wp2
  have e1 : ((w2.setCell ⟨w.heap.size + 1, 0, none⟩ (.slice A l.length c)).setCell ⟨w.heap.size + 1 + 1, 0, none⟩ (.bool true)).cell? ⟨w.heap.size + 1, 0, none⟩ = some (.slice A l.length c) := by
    rw [World.cell?_setCell_other _ _ _ _ (by intro e; injection e with e; omega)]
    exact World.cell?_setCell_same w2 _ _ d1
  have e2 : ((w2.setCell ⟨w.heap.size + 1, 0, none⟩ (.slice A l.length c)).setCell ⟨w.heap.size + 1 + 1, 0, none⟩ (.bool true)).cell? ⟨w.heap.size + 1 + 1, 0, none⟩ = some (.bool true) :=
    World.cell?_setCell_same _ _ (.bool true) ((World.cell?_setCell_other w2 _ _ _ (by intro e; injection e with e; omega)).trans d2)
  refine bodyPost_ret (v := .tuple #[.slice A l.length c, .bool true]) (by simp [results, Tryz.results20, go_sem, e1, e2]) rfl ⟨_, rfl, ?_, ?_⟩
  · exact d3.kept (((Kept.refl w2 (fun k => k = w.heap.size + 1 ∨ k = w.heap.size + 1 + 1)).setCell (p := ⟨w.heap.size + 1, 0, none⟩) (.inl (.inl rfl)) _).setCell (p := ⟨w.heap.size + 1 + 1, 0, none⟩) (.inl (.inr rfl)) _) (fun k hk e => by have := hbk k hk; omega)
  · exact (hF2.setCell (p := ⟨w.heap.size + 1, 0, none⟩) (.inr (by show w.heap.size ≤ w.heap.size + 1; omega)) _).setCell (p := ⟨w.heap.size + 1 + 1, 0, none⟩) (.inr (by show w.heap.size ≤ w.heap.size + 1 + 1; omega)) _
end Go.Proofs.YthmopakaikhjlaaGreatDoor
