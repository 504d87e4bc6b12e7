/- ZZUnpack, impl.Unpack: a message is read from its packets. -/
import Derived.Test.YtahcaoenddapoaaReadAll
import Derived.Test.YtahcaoenddapoaaImplPk
namespace Go.Proofs.Ytahcaoenddapoaa
open Go.RowKit

theorem New.inn {w : World} {base g hb bb ps C : Nat} {v : Value} {m : List Nat} (h : New w base g hb bb ps C v m) : In w base g hb bb ps 32768 (C - 32768) 8 0 false 0 (List.replicate C 0) m :=
  have c := fun j => cell_of_row w g j (newCells hb bb ps C) 150 (0, 0) h.cells
  ⟨c 0, c 1, c 6, c 7, c 8, c 9, c 10, h.raw.frz, h.blk, by have := h.c1; simp; omega, by
    obtain ⟨A, c', hv⟩ := h.wr.row.slice
    subst hv
    exact ⟨A, m.length, c', h.wr.cell, h.wr.frz, h.wr.row.bts, fun k hk e => by
      rcases e with e | e | e
      · exact h.n4 (by rw [hk, e])
      · exact h.n5 (by rw [hk, e])
      · have := h.n6 k hk
        omega⟩, h.n1, h.n2, h.n3, h.b1, h.b2, h.b3⟩

theorem Rd.lts {w : World} {base g hb bb ps o n typ : Nat} {R : List Nat} (h : Rd w base g hb bb ps o n typ R) : g < w.heap.size ∧ hb < w.heap.size ∧ bb < w.heap.size ∧ base ≤ g ∧ base ≤ hb ∧ base ≤ bb := by
  obtain ⟨a1, a2, a3, a4, a5, a6, a7, a8, hI, a10⟩ := h
  obtain ⟨A, m, c, h1, _⟩ := hI.src
  exact ⟨hI.lt, hI.blk.lt, World.block_lt_of_cell? w ⟨bb, 0, none⟩ h1, hI.b1, hI.b2, hI.b3⟩

set_option maxRecDepth 100000 in
set_option maxHeartbeats 1000000 in
theorem zzUnpack_any (typ : Nat) (D T : List Nat) (hS : Str 32767 typ false D T) (hD : D.length ≤ 10000000) (hT : T.length ≤ 1000000) (A : Option Addr) (n c : Nat) (w : World) (hx : Bts w (.slice A n c) D) :
    Calls Try.prog 45 #[.int .i64 32767, .slice A n c] w fun e w' => ∃ v, e = .returned (.tuple #[.int .u8 (typ : Int), v, .nilIface]) ∧ Row w.heap.size w' v T ∧ Fresh w w' := by
  go_enter Try.func45, Try.ntmps45
  go_wp2_with (fail)
  refine (zzBuffer_any 32767 (by omega) (.slice A n c) D (by omega) _ hx).mono ?_
  rintro e w1 ⟨g, hb, bb, C, v, rfl, hN, hF1⟩
  have hc1 := hN.c1
  have hc2 := hN.c2
  have HI := Go.Lib.hid hN.inn
  clear hN
  go_wp2_with (fail)
  refine (beginRead_any w.heap.size g hb bb 32767 32768 (C - 32768) 8 0 0 typ false _ D T _ HI.out hS (by omega) (by omega) (by omega)).mono ?_
  rintro e w2 ⟨rfl, hR, K2⟩
  obtain ⟨l1, l2, l3, b1, b2, b3⟩ := hR.lts
  have F2 : Fresh w w2 := hF1.trans K2 (fun k hk e => by rcases e with e | e | e <;> omega)
  have HR := Go.Lib.hid hR
  clear hR K2 HI
  go_wp2_with (fail)
  refine (readAll_any w.heap.size g hb bb 32767 32768 (C - 32768) typ T _ HR.out (by omega) (by omega) (by omega) hT l1 l2 l3).mono ?_
  rintro e w3 ⟨v3, rfl, hr3, K3⟩
  have F3 : Fresh w w3 := F2.trans K3 (fun k hk e => by rcases e with e | e | e <;> omega)
  have H3 := Go.Lib.hid (hr3.lower F2.size)
  clear hr3 K3
  go_wp2
  refine bodyPost_ret (v := .tuple #[.int .u8 (typ : Int), v3, .nilIface]) (by simp [results, Try.results45, go_sem]) rfl ⟨v3, rfl, H3.out, F3⟩

theorem enter44 (args : Array Value) (W : World) : (callFunc 44 args).run Try.prog W = .ok (.enter 44 args) W := run_enter Try.func44 (by kernel_rfl) (by kernel_rfl) args W

set_option maxRecDepth 100000 in
set_option maxHeartbeats 2000000 in
theorem unpack1_any (typ : Nat) (D T : List Nat) (ht : typ < 256) (hS : Str 32767 typ false D T) (hD : D.length ≤ 10000000) (hT : T.length ≤ 1000000) (A : Option Addr) (n c : Nat) (w : World) (hx : Bts w (.slice A n c) D) (p0 p1 p2 p3 : Nat) (v1 v2 v3 : Value)
    (h0 : w.cell? ⟨p0, 0, none⟩ = some (.slice A n c)) (h1 : w.cell? ⟨p1, 0, none⟩ = some v1) (h2 : w.cell? ⟨p2, 0, none⟩ = some v2) (h3 : w.cell? ⟨p3, 0, none⟩ = some v3)
    (f1 : w.frozen? ⟨p1, 0, none⟩ = false) (f2 : w.frozen? ⟨p2, 0, none⟩ = false) (f3 : w.frozen? ⟨p3, 0, none⟩ = false) (n12 : p1 ≠ p2) (n13 : p1 ≠ p3) (n23 : p2 ≠ p3) :
    Calls Try.prog 44 #[.pointer (some ⟨p0, 0, none⟩), .pointer (some ⟨p1, 0, none⟩), .pointer (some ⟨p2, 0, none⟩), .pointer (some ⟨p3, 0, none⟩)] w fun e w' => e = .returned (.tuple #[]) ∧ ∃ v, w'.cell? ⟨p1, 0, none⟩ = some (.int .i64 (typ : Int)) ∧ w'.cell? ⟨p2, 0, none⟩ = some v ∧ w'.cell? ⟨p3, 0, none⟩ = some (.bool true) ∧ Row w.heap.size w' v T ∧ Kept w w' (fun k => k = p1 ∨ k = p2 ∨ k = p3) ∧ w'.frozen? ⟨p1, 0, none⟩ = false ∧ w'.frozen? ⟨p2, 0, none⟩ = false ∧ w'.frozen? ⟨p3, 0, none⟩ = false := by
  obtain ⟨i0, hi, hz0, hz1, hz2⟩ := info_parts info5
  have l1 := World.block_lt_of_cell? w ⟨p1, 0, none⟩ h1
  have l2 := World.block_lt_of_cell? w ⟨p2, 0, none⟩ h2
  have l3 := World.block_lt_of_cell? w ⟨p3, 0, none⟩ h3
  have hF1 : Fresh w (w.alloc (.cells #[] 5)) := (Kept.refl w _).alloc _
  have h01 := hF1.held h0 (fun h => h)
  have hlen : ([] : List Nat).length + D.length ≤ 140737488355328 := by simp; omega
  go_enter Try.func44, Try.ntmps44
  go_wp2_with (at_builtin; refine wpList_append_bts _ rfl (.tmp 8) (.tmp 9) 24 24 rfl w.heap.size i0 Try.underlying24 Try.underlying24 hi hz0 hz1 hz2 (.slice (some ⟨w.heap.size, 0, none⟩) 0 0) (.slice A n c) rfl rfl [] D (Row.empty_new w _ (Nat.le_refl _)) (hx.fresh hF1) hlen (by simp) ?_; intro A' c' w2 hr2 hg2 hm2)
  have hF2 : Fresh w w2 := hF1.trans (Kept.of_grown hg2) (fun k hk e => by simp [Value.ownBlock] at e; omega)
  have hr3 : Row w.heap.size w2 (.slice A' D.length c') D := by simpa using hr2
  have HR := Go.Lib.hid hr3
  clear hr2 hr3
  go_wp2_with (fail)
  refine (zzUnpack_any typ D T hS hD hT _ _ _ _ (by simpa using HR.out.bts)).mono ?_
  rintro e w1 ⟨b, rfl, hb, hF3⟩
  have hF := hF2.fresh hF3
  have a1 := hF.held h1 (fun h => h)
  have a2 := hF.held h2 (fun h => h)
  have a3 := hF.held h3 (fun h => h)
  have g1 := (hF.frozen (p := ⟨p1, 0, none⟩) l1 (fun h => h)).trans f1
  have g2 := (hF.frozen (p := ⟨p2, 0, none⟩) l2 (fun h => h)).trans f2
  have g3 := (hF.frozen (p := ⟨p3, 0, none⟩) l3 (fun h => h)).trans f3
  obtain ⟨Ab, cb, rfl⟩ := hb.slice
  have hlen2 : ([] : List Nat).length + T.length ≤ 140737488355328 := by simp; omega
  have hsz := hF.size
  have e1 : (typ : Int) < 256 := by omega
  go_wp2_with (fail)
  go_region_law (refine step_append_bts _ rfl (.tmp 17) (.tmp 18) 24 24 rfl w.heap.size i0 Try.underlying24 Try.underlying24 hi hz0 hz1 hz2 (.slice (some ⟨w1.heap.size, 0, none⟩) 0 0) (.slice Ab T.length cb) rfl rfl [] T (by exact (Row.empty_new w1 _ hF.size).fresh (Kept.refl _ _).drew) (by exact hb.bts.fresh ((Kept.refl w1 _).alloc _).drew) hlen2 (by simp; omega) ?_; intro A2 c2 w4 hr4 hg4 hm4; have hF4 : Fresh w1 w4 := (((Kept.refl w1 _).alloc _).drew).trans (Kept.of_grown hg4) (fun k hk e => by simp [Value.ownBlock] at e; omega); have q1 := hF4.held a1 (fun h => h); have q2 := hF4.held a2 (fun h => h); have q3 := hF4.held a3 (fun h => h); have r1 := (hF4.frozen (p := ⟨p1, 0, none⟩) (Nat.lt_of_lt_of_le l1 hF.size) (fun h => h)).trans g1; have r2 := (hF4.frozen (p := ⟨p2, 0, none⟩) (Nat.lt_of_lt_of_le l2 hF.size) (fun h => h)).trans g2; have r3 := (hF4.frozen (p := ⟨p3, 0, none⟩) (Nat.lt_of_lt_of_le l3 hF.size) (fun h => h)).trans g3)
  all_goals
    go_wp2
    go_end0
    have hr5 : Row w.heap.size w4 (.slice A2 T.length c2) T := by simpa using hr4
    have hbk : ∀ k, (Value.slice A2 T.length c2).ownBlock = some k → w1.heap.size ≤ k := fun k hk => by
      rcases hm4 k (by simpa using hk) with h | h
      · simp [Value.ownBlock] at h; omega
      · simp at h; omega
    have d12 : (⟨p1, 0, none⟩ : Addr) ≠ ⟨p2, 0, none⟩ := by intro e; injection e with e; omega
    have d13 : (⟨p1, 0, none⟩ : Addr) ≠ ⟨p3, 0, none⟩ := by intro e; injection e with e; omega
    have d23 : (⟨p2, 0, none⟩ : Addr) ≠ ⟨p3, 0, none⟩ := by intro e; injection e with e; omega
    have kA : ∀ (W : World) (p : Nat) (u : Value), p = p1 ∨ p = p2 ∨ p = p3 → Kept W (W.setCell ⟨p, 0, none⟩ u) (fun k => k = p1 ∨ k = p2 ∨ k = p3) := fun W p u hp => (Kept.refl W _).setCell (p := ⟨p, 0, none⟩) (.inl hp) u
    have hK : Kept w4 (((w4.setCell ⟨p1, 0, none⟩ (.int .i64 (typ : Int))).setCell ⟨p2, 0, none⟩ (.slice A2 T.length c2)).setCell ⟨p3, 0, none⟩ (.bool true)) (fun k => k = p1 ∨ k = p2 ∨ k = p3) :=
      ((kA w4 p1 _ (.inl rfl)).trans (kA _ p2 _ (.inr (.inl rfl))) (fun _ _ h => h)).trans (kA _ p3 _ (.inr (.inr rfl))) (fun _ _ h => h)
    have hX1 : World.cell? (((w4.setCell ⟨p1, 0, none⟩ (.int .i64 (typ : Int))).setCell ⟨p2, 0, none⟩ (.slice A2 T.length c2)).setCell ⟨p3, 0, none⟩ (.bool true)) ⟨p1, 0, none⟩ = some (.int .i64 (typ : Int)) := by
      rw [World.cell?_setCell_other _ _ _ _ (Ne.symm d13), World.cell?_setCell_other _ _ _ _ (Ne.symm d12)]
      exact World.cell?_setCell_same _ _ _ q1
    have hX2 : World.cell? (((w4.setCell ⟨p1, 0, none⟩ (.int .i64 (typ : Int))).setCell ⟨p2, 0, none⟩ (.slice A2 T.length c2)).setCell ⟨p3, 0, none⟩ (.bool true)) ⟨p2, 0, none⟩ = some (.slice A2 T.length c2) := by
      rw [World.cell?_setCell_other _ _ _ _ (Ne.symm d23)]
      exact World.cell?_setCell_same _ _ _ ((World.cell?_setCell_other _ _ _ _ d12).trans q2)
    have hX3 : World.cell? (((w4.setCell ⟨p1, 0, none⟩ (.int .i64 (typ : Int))).setCell ⟨p2, 0, none⟩ (.slice A2 T.length c2)).setCell ⟨p3, 0, none⟩ (.bool true)) ⟨p3, 0, none⟩ = some (.bool true) :=
      World.cell?_setCell_same _ _ _ ((World.cell?_setCell_other _ _ _ _ d23).trans ((World.cell?_setCell_other _ _ _ _ d13).trans q3))
    have hR6 := hr5.kept hK (fun k hk e => by have := hbk k hk; omega)
    have hK6 : Kept w _ (fun k => k = p1 ∨ k = p2 ∨ k = p3) := ((hF.fresh hF4).mono (S := fun k => k = p1 ∨ k = p2 ∨ k = p3) (fun _ _ h => h.elim)).trans hK (fun _ _ h => h)
    have ew : IntKind.i64.wrap (typ : Int) = (typ : Int) := IntWalk.i64_in _ (by omega)
    try rw [ew]
    refine ⟨rfl, .slice A2 T.length c2, ?_, ?_, ?_, ?_, ?_, by simpa using r1, by simpa using r2, by simpa using r3⟩
    · first | exact hX1 | (show World.cell? (World.setCell (World.setCell (World.setCell _ _ _) _ _) _ _) _ = _; exact hX1)
    · first | exact hX2 | (show World.cell? (World.setCell (World.setCell (World.setCell _ _ _) _ _) _ _) _ = _; exact hX2)
    · first | exact hX3 | (show World.cell? (World.setCell (World.setCell (World.setCell _ _ _) _ _) _ _) _ = _; exact hX3)
    · first | exact hR6 | exact hR6.fresh (Kept.refl _ _).drew
    · first | exact hK6 | exact hK6.drew

theorem four_cells (w : World) (a b c d : Value) (ta tb tc td : TypeId) :
    ((((w.alloc (.cells #[a] ta)).alloc (.cells #[b] tb)).alloc (.cells #[c] tc)).alloc (.cells #[d] td)).cell? ⟨w.heap.size, 0, none⟩ = some a ∧
    ((((w.alloc (.cells #[a] ta)).alloc (.cells #[b] tb)).alloc (.cells #[c] tc)).alloc (.cells #[d] td)).cell? ⟨w.heap.size + 1, 0, none⟩ = some b ∧
    ((((w.alloc (.cells #[a] ta)).alloc (.cells #[b] tb)).alloc (.cells #[c] tc)).alloc (.cells #[d] td)).cell? ⟨w.heap.size + 1 + 1, 0, none⟩ = some c ∧
    ((((w.alloc (.cells #[a] ta)).alloc (.cells #[b] tb)).alloc (.cells #[c] tc)).alloc (.cells #[d] td)).cell? ⟨w.heap.size + 1 + 1 + 1, 0, none⟩ = some d ∧
    ((((w.alloc (.cells #[a] ta)).alloc (.cells #[b] tb)).alloc (.cells #[c] tc)).alloc (.cells #[d] td)).frozen? ⟨w.heap.size + 1, 0, none⟩ = false ∧
    ((((w.alloc (.cells #[a] ta)).alloc (.cells #[b] tb)).alloc (.cells #[c] tc)).alloc (.cells #[d] td)).frozen? ⟨w.heap.size + 1 + 1, 0, none⟩ = false ∧
    ((((w.alloc (.cells #[a] ta)).alloc (.cells #[b] tb)).alloc (.cells #[c] tc)).alloc (.cells #[d] td)).frozen? ⟨w.heap.size + 1 + 1 + 1, 0, none⟩ = false := by
  refine ⟨?_, ?_, ?_, ?_, ?_, ?_, ?_⟩ <;> simp [go_sem, World.cell?_alloc_past]

set_option maxRecDepth 100000 in
set_option maxHeartbeats 2000000 in
theorem implUnpack_any (typ : Nat) (D T : List Nat) (ht : typ < 256) (hS : Str 32767 typ false D T) (hD : D.length ≤ 10000000) (hT : T.length ≤ 1000000) (A : Option Addr) (n c : Nat) (w : World) (hx : Bts w (.slice A n c) D) :
    Calls Try.prog 18 #[.slice A n c] w fun e w' => ∃ v, e = .returned (.tuple #[.int .i64 (typ : Int), v, .bool true]) ∧ Row w.heap.size w' v T ∧ Fresh w w' := by
  have hmf : ∀ (fn : Fn) (first cap : Array Value) (w : World), (Instr.makeFunc fn first cap).run Try.prog w = .ok (.func fn first cap) w := fun _ _ _ _ => rfl
  obtain ⟨c1, c2, c3, c4, f2, f3, f4⟩ := four_cells w (.slice A n c) (.int .i64 0) (.slice none 0 0) (.bool false) 24 3 24 4
  have hF0 : Fresh w ((((w.alloc (.cells #[.slice A n c] 24)).alloc (.cells #[.int .i64 0] 3)).alloc (.cells #[.slice none 0 0] 24)).alloc (.cells #[.bool false] 4)) := ((((Kept.refl w _).alloc _).alloc _).alloc _).alloc _
  have hs0 : ((((w.alloc (.cells #[.slice A n c] 24)).alloc (.cells #[.int .i64 0] 3)).alloc (.cells #[.slice none 0 0] 24)).alloc (.cells #[.bool false] 4)).heap.size = w.heap.size + 1 + 1 + 1 + 1 := by simp
  go_enter Try.func18, Try.ntmps18
  go_wp2_with (fail)
  generalize hW : ((((w.alloc (.cells #[.slice A n c] 24)).alloc (.cells #[.int .i64 0] 3)).alloc (.cells #[.slice none 0 0] 24)).alloc (.cells #[.bool false] 4)) = W at *
  have HW := Go.Lib.hid hW
  clear hW
  have HS := Go.Lib.hid hs0
  have hsz := hF0.size
  have hk1 : Fresh W (W.alloc (.cells #[.bool false] 4)) := (Kept.refl W _).alloc _
  refine (quietly_any 44 _ (fun w1 => ∃ v, w1.cell? ⟨w.heap.size + 1, 0, none⟩ = some (.int .i64 (typ : Int)) ∧ w1.cell? ⟨w.heap.size + 1 + 1, 0, none⟩ = some v ∧ w1.cell? ⟨w.heap.size + 1 + 1 + 1, 0, none⟩ = some (.bool true) ∧ Row (W.alloc (.cells #[.bool false] 4)).heap.size w1 v T ∧ Kept (W.alloc (.cells #[.bool false] 4)) w1 (fun k => k = w.heap.size + 1 ∨ k = w.heap.size + 1 + 1 ∨ k = w.heap.size + 1 + 1 + 1) ∧ w1.frozen? ⟨w.heap.size + 1, 0, none⟩ = false ∧ w1.frozen? ⟨w.heap.size + 1 + 1, 0, none⟩ = false ∧ w1.frozen? ⟨w.heap.size + 1 + 1 + 1, 0, none⟩ = false) _ (enter44 _) ?_).mono ?_
  · refine (unpack1_any typ D T ht hS hD hT A n c _ ((hx.fresh hF0).fresh hk1) w.heap.size (w.heap.size + 1) (w.heap.size + 1 + 1) (w.heap.size + 1 + 1 + 1) _ _ _ (hk1.held c1 (fun h => h)) (hk1.held c2 (fun h => h)) (hk1.held c3 (fun h => h)) (hk1.held c4 (fun h => h)) ?_ ?_ ?_ (by omega) (by omega) (by omega)).mono ?_
    · exact (hk1.frozen (p := ⟨w.heap.size + 1, 0, none⟩) (by show w.heap.size + 1 < _; omega) (fun h => h)).trans f2
    · exact (hk1.frozen (p := ⟨w.heap.size + 1 + 1, 0, none⟩) (by show w.heap.size + 1 + 1 < _; omega) (fun h => h)).trans f3
    · exact (hk1.frozen (p := ⟨w.heap.size + 1 + 1 + 1, 0, none⟩) (by show w.heap.size + 1 + 1 + 1 < _; omega) (fun h => h)).trans f4
    rintro e w1 ⟨rfl, v, h1, h2, h3, h4, h5, h6, h7, h8⟩
    have hlt : W.heap.size < (W.alloc (.cells #[.bool false] 4)).heap.size := by simp
    have hgb : (W.alloc (.cells #[.bool false] 4)).heap[W.heap.size]? = some (.cells #[.bool false] 4) := heap_alloc_new _ _
    refine ⟨rfl, ⟨v, h1, h2, h3, h4, h5, h6, h7, h8⟩, ?_, ?_⟩
    · exact (h5.cell (p := ⟨W.heap.size, 0, none⟩) hlt (by show ¬ (W.heap.size = _ ∨ W.heap.size = _ ∨ W.heap.size = _); omega)).trans (cell_of_row _ _ 0 _ _ _ hgb)
    · refine (h5.frozen (p := ⟨W.heap.size, 0, none⟩) hlt (by show ¬ (W.heap.size = _ ∨ W.heap.size = _ ∨ W.heap.size = _); omega)).trans ?_
      simp only [World.frozen?, hgb]
      rfl
  rintro e w2 ⟨rfl, w1, ⟨v, h1, h2, h3, h4, h5, h6, h7, h8⟩, hw2⟩
  obtain ⟨A2, cc2, rfl⟩ := h4.slice
  have hbk : ∀ k, (Value.slice A2 T.length cc2).ownBlock = some k → W.heap.size < k := fun k hk => by
    have := (h4.block k hk).1
    simp at this
    omega
  have hK2 : Kept w w2 (fun k => k = w.heap.size + 1 ∨ k = w.heap.size + 1 + 1 ∨ k = w.heap.size + 1 + 1 + 1) := by
    rw [hw2]
    refine (((hF0.fresh hk1).mono (S := fun k => k = w.heap.size + 1 ∨ k = w.heap.size + 1 + 1 ∨ k = w.heap.size + 1 + 1 + 1) (fun _ _ h => h.elim)).trans h5 (fun _ _ h => h)).setCell (.inr hsz) _
  have hF2 : Fresh w w2 := hK2.mono (fun k hk h => by omega)
  have hne1 : (⟨W.heap.size, 0, none⟩ : Addr) ≠ ⟨w.heap.size + 1, 0, none⟩ := by intro e; injection e with e; omega
  have hne2 : (⟨W.heap.size, 0, none⟩ : Addr) ≠ ⟨w.heap.size + 1 + 1, 0, none⟩ := by intro e; injection e with e; omega
  have hne3 : (⟨W.heap.size, 0, none⟩ : Addr) ≠ ⟨w.heap.size + 1 + 1 + 1, 0, none⟩ := by intro e; injection e with e; omega
  have d1 : w2.cell? ⟨w.heap.size + 1, 0, none⟩ = some (.int .i64 (typ : Int)) := by rw [hw2, World.cell?_setCell_other _ _ _ _ hne1]; exact h1
  have d2 : w2.cell? ⟨w.heap.size + 1 + 1, 0, none⟩ = some (.slice A2 T.length cc2) := by rw [hw2, World.cell?_setCell_other _ _ _ _ hne2]; exact h2
  have d3 : w2.cell? ⟨w.heap.size + 1 + 1 + 1, 0, none⟩ = some (.bool true) := by rw [hw2, World.cell?_setCell_other _ _ _ _ hne3]; exact h3
  have dr : Row w.heap.size w2 (.slice A2 T.length cc2) T := by
    rw [hw2]
    exact (h4.lower (by simp; omega)).kept ((Kept.refl w1 (fun k => k = W.heap.size)).setCell (p := ⟨W.heap.size, 0, none⟩) (.inl rfl) _) (fun k hk e => by have := hbk k hk; omega)
  have d4 : w2.frozen? ⟨w.heap.size + 1, 0, none⟩ = false := by rw [hw2, World.frozen?_setCell]; exact h6
  have d5 : w2.frozen? ⟨w.heap.size + 1 + 1, 0, none⟩ = false := by rw [hw2, World.frozen?_setCell]; exact h7
  have d6 : w2.frozen? ⟨w.heap.size + 1 + 1 + 1, 0, none⟩ = false := by rw [hw2, World.frozen?_setCell]; exact h8
  clear hw2 h1 h2 h3 h4 h5 h6 h7 h8 hk1 c1 c2 c3 c4 f2 f3 f4 hne1 hne2 hne3 hF0
  go_wp2_with (fail)
  go_region
  all_goals
    go_wp2
    have n12 : (⟨w.heap.size + 1, 0, none⟩ : Addr) ≠ ⟨w.heap.size + 1 + 1, 0, none⟩ := by intro e; injection e with e; omega
    have n13 : (⟨w.heap.size + 1, 0, none⟩ : Addr) ≠ ⟨w.heap.size + 1 + 1 + 1, 0, none⟩ := by intro e; injection e with e; omega
    have n23 : (⟨w.heap.size + 1 + 1, 0, none⟩ : Addr) ≠ ⟨w.heap.size + 1 + 1 + 1, 0, none⟩ := by intro e; injection e with e; omega
    have e1 : World.cell? (((w2.setCell ⟨w.heap.size + 1, 0, none⟩ (.int .i64 (typ : Int))).setCell ⟨w.heap.size + 1 + 1, 0, none⟩ (.slice A2 T.length cc2)).setCell ⟨w.heap.size + 1 + 1 + 1, 0, none⟩ (.bool true)) ⟨w.heap.size + 1, 0, none⟩ = some (.int .i64 (typ : Int)) := by
      rw [World.cell?_setCell_other _ _ _ _ (Ne.symm n13), World.cell?_setCell_other _ _ _ _ (Ne.symm n12)]
      exact World.cell?_setCell_same _ _ _ d1
    have e2 : World.cell? (((w2.setCell ⟨w.heap.size + 1, 0, none⟩ (.int .i64 (typ : Int))).setCell ⟨w.heap.size + 1 + 1, 0, none⟩ (.slice A2 T.length cc2)).setCell ⟨w.heap.size + 1 + 1 + 1, 0, none⟩ (.bool true)) ⟨w.heap.size + 1 + 1, 0, none⟩ = some (.slice A2 T.length cc2) := by
      rw [World.cell?_setCell_other _ _ _ _ (Ne.symm n23)]
      exact World.cell?_setCell_same _ _ _ ((World.cell?_setCell_other _ _ _ _ n12).trans d2)
    have e3 : World.cell? (((w2.setCell ⟨w.heap.size + 1, 0, none⟩ (.int .i64 (typ : Int))).setCell ⟨w.heap.size + 1 + 1, 0, none⟩ (.slice A2 T.length cc2)).setCell ⟨w.heap.size + 1 + 1 + 1, 0, none⟩ (.bool true)) ⟨w.heap.size + 1 + 1 + 1, 0, none⟩ = some (.bool true) :=
      World.cell?_setCell_same _ _ _ ((World.cell?_setCell_other _ _ _ _ n23).trans ((World.cell?_setCell_other _ _ _ _ n13).trans d3))
    have hS3 : Kept w2 (((w2.setCell ⟨w.heap.size + 1, 0, none⟩ (.int .i64 (typ : Int))).setCell ⟨w.heap.size + 1 + 1, 0, none⟩ (.slice A2 T.length cc2)).setCell ⟨w.heap.size + 1 + 1 + 1, 0, none⟩ (.bool true)).drew (fun k => k = w.heap.size + 1 ∨ k = w.heap.size + 1 + 1 ∨ k = w.heap.size + 1 + 1 + 1) :=
      ((((Kept.refl w2 (fun k => k = w.heap.size + 1 ∨ k = w.heap.size + 1 + 1 ∨ k = w.heap.size + 1 + 1 + 1)).setCell (p := ⟨w.heap.size + 1, 0, none⟩) (.inl (.inl rfl)) _).setCell (p := ⟨w.heap.size + 1 + 1, 0, none⟩) (.inl (.inr (.inl rfl))) _).setCell (p := ⟨w.heap.size + 1 + 1 + 1, 0, none⟩) (.inl (.inr (.inr rfl))) _).drew
    refine bodyPost_ret (v := .tuple #[.int .i64 (typ : Int), .slice A2 T.length cc2, .bool true]) (by simp [results, Try.results18, go_sem, e1, e2, e3]) rfl ⟨_, rfl, ?_, ?_⟩
    · exact dr.kept hS3 (fun k hk e => by have := hbk k hk; omega)
    · exact hF2.trans hS3 (fun k hk e => by omega)
end Go.Proofs.Ytahcaoenddapoaa
