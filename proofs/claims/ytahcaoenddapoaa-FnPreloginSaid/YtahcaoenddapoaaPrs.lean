/- ParsePrelogin. -/
import Derived.Test.YtahcaoenddapoaaPrs1
import Derived.Test.YtahcaoenddapoaaIsc
namespace Go.Proofs.Ytahcaoenddapoaa
open Go.RowKit

theorem two_cells (w : World) (a b : Value) (ta tb : TypeId) :
    ((w.alloc (.cells #[a] ta)).alloc (.cells #[b] tb)).cell? ⟨w.heap.size, 0, none⟩ = some a ∧ ((w.alloc (.cells #[a] ta)).alloc (.cells #[b] tb)).cell? ⟨w.heap.size + 1, 0, none⟩ = some b ∧
    ((w.alloc (.cells #[a] ta)).alloc (.cells #[b] tb)).frozen? ⟨w.heap.size, 0, none⟩ = false ∧ ((w.alloc (.cells #[a] ta)).alloc (.cells #[b] tb)).frozen? ⟨w.heap.size + 1, 0, none⟩ = false := by
  refine ⟨?_, ?_, ?_, ?_⟩ <;> simp [go_sem, World.cell?_alloc_past]

set_option maxRecDepth 100000 in
set_option maxHeartbeats 1000000 in
theorem parse_any (D : Nat → List Nat) (ks : List Nat) (hf : Fine D ks) (h0 : 1 ≤ ks.length) (A : Option Addr) (n c : Nat) (w : World) (hx : Bts w (.slice A n c) (pre D ks)) :
    Calls Try.prog 31 #[.slice A n c] w fun e w' => ∃ g c' L, e = .returned (.tuple #[.slice (some ⟨g, 0, none⟩) ks.length c', .bool true]) ∧ RowO 61 w.heap.size w' (.slice (some ⟨g, 0, none⟩) ks.length c') L ∧ L.map Prod.fst = ks ∧ (∀ x ∈ L, Bts w' x.2 (D x.1)) ∧ Fresh w w' := by
  have hmf : ∀ (fn : Fn) (first cap : Array Value) (w : World), (Instr.makeFunc fn first cap).run Try.prog w = .ok (.func fn first cap) w := fun _ _ _ _ => rfl
  have hfl := hf.flat
  have hn1 := hf.n1
  have hpl := pre_length D ks
  have hal : AllPacked (32767 - 8) 4 (pre D ks) (packed 32759 4 0 (pre D ks)) := ⟨0, .inl rfl, by omega, rfl⟩
  generalize packed 32759 4 0 (pre D ks) = l at hal
  have HLL := Go.Lib.hid hal
  have hl1 := hal.few (by omega) (by omega)
  have hst := Go.Lib.hid (str_all (ps := 32767) hal (by omega) (by omega) (by omega))
  have HF := Go.Lib.hid hf
  have HX := Go.Lib.hid hx
  have HP2 := Go.Lib.hid (show (pre D ks).length ≤ 2000 by omega)
  clear hal hf hfl hn1 hpl hx
  go_enter Try.func31, Try.ntmps31
  go_wp2_with (fail)
  obtain ⟨c0, c1, f0, f1⟩ := two_cells w (.slice none 0 0) (.bool false) 51 4
  have hF0 : Fresh w ((w.alloc (.cells #[.slice none 0 0] 51)).alloc (.cells #[.bool false] 4)) := ((Kept.refl w (fun _ => False)).alloc _).alloc _
  have hs0 : ((w.alloc (.cells #[.slice none 0 0] 51)).alloc (.cells #[.bool false] 4)).heap.size = w.heap.size + 1 + 1 := by simp
  generalize (w.alloc (.cells #[.slice none 0 0] 51)).alloc (.cells #[.bool false] 4) = w0 at *
  obtain ⟨pl, hpl⟩ : ∃ pl, w.heap.size = pl := ⟨_, rfl⟩
  obtain ⟨pk, hpk⟩ : ∃ pk, pl + 1 = pk := ⟨_, rfl⟩
  rw [hpl, hpk] at hs0 c1 f1 ⊢
  rw [hpl] at c0 f0
  have HPL := Go.Lib.hid (And.intro hpl hpk)
  have HS0 := Go.Lib.hid hs0
  have hne : pl ≠ pk := by omega
  clear hpl hpk hs0
  refine (implPackets_any 4 32767 (by omega) (by omega) (by omega) (pre D ks) l HLL.out (by have := HP2.out; omega) A n c w0 (HX.out.fresh hF0)).mono ?_
  rintro e w1 ⟨v1, rfl, hr1, hF1⟩
  obtain ⟨A1, k1, rfl⟩ := hr1.slice
  obtain ⟨m, hm⟩ : ∃ m, l.length = m := ⟨_, rfl⟩
  rw [hm] at hr1 ⊢
  have HMM := Go.Lib.hid hm
  have HR1 := Go.Lib.hid hr1
  have a0 := hF1.held c0 (fun h => h)
  have a1 := hF1.held c1 (fun h => h)
  have g0 := (hF1.frozen (p := ⟨pl, 0, none⟩) (show pl < w0.heap.size by have := HS0.out; have := HPL.out.2; omega) (fun h => h)).trans f0
  have g1 := (hF1.frozen (p := ⟨pk, 0, none⟩) (show pk < w0.heap.size by have := HS0.out; have := HPL.out.2; omega) (fun h => h)).trans f1
  have hs1 : pk < w1.heap.size := World.block_lt_of_cell? w1 _ a1
  have HF1 := Go.Lib.hid (hF0.fresh hF1)
  clear hm hr1 c0 c1 f0 f1 hF0 hF1
  go_upto_region 4 with (fail)
  have hF2 : Fresh w1 (w1.alloc (.cells #[.slice A1 m k1] 24)) := (Kept.refl w1 (fun _ => False)).alloc _
  have b2 : (w1.alloc (.cells #[.slice A1 m k1] 24)).cell? ⟨w1.heap.size, 0, none⟩ = some (.slice A1 m k1) := cell_of_row _ _ 0 _ _ _ (heap_alloc_new w1 _)
  have b0 := hF2.held a0 (fun h => h)
  have b1 := hF2.held a1 (fun h => h)
  have e0 := (hF2.frozen (p := ⟨pl, 0, none⟩) (show pl < w1.heap.size by have := HPL.out.2; omega) (fun h => h)).trans g0
  have e1 := (hF2.frozen (p := ⟨pk, 0, none⟩) (show pk < w1.heap.size by omega) (fun h => h)).trans g1
  have HR2 := Go.Lib.hid (HR1.out.fresh hF2)
  have HF2 := Go.Lib.hid (HF1.out.fresh hF2)
  have hs2 : (w1.alloc (.cells #[.slice A1 m k1] 24)).heap.size = w1.heap.size + 1 := by simp
  generalize w1.alloc (.cells #[.slice A1 m k1] 24) = W at *
  generalize hpp : w1.heap.size = pp at *
  clear a0 a1 g0 g1 hF2 HR1 HF1 hpp
  go_wp2_with (fail)
  have hk1 : Fresh W (W.alloc (.cells #[.bool false] 4)) := (Kept.refl W (fun _ => False)).alloc _
  have hb1 : (W.alloc (.cells #[.bool false] 4)).heap.size = W.heap.size + 1 := by simp
  have HS2 := Go.Lib.hid hs2
  refine (quietly_any 67 _ (fun w' => ∃ v L, w'.cell? ⟨pk, 0, none⟩ = some (.bool true) ∧ w'.cell? ⟨pl, 0, none⟩ = some v ∧ Puts w' (W.alloc (.cells #[.bool false] 4)).heap.size v L D ∧ (L.map Prod.fst).Nodup ∧ (∀ k, k ∈ L.map Prod.fst ↔ k ∈ ks) ∧ Kept (W.alloc (.cells #[.bool false] 4)) w' (fun k => k = pk ∨ k = pl) ∧ w'.frozen? ⟨pk, 0, none⟩ = false ∧ w'.frozen? ⟨pl, 0, none⟩ = false) W (enter67 _) ?_).mono ?_
  · refine (parse1_any D ks HF.out l hst.out (by omega) A1 m k1 _ (by have h := (HR2.out.fresh hk1).bts; exact h) pp pk pl _ (hk1.held b2 (fun h => h)) (hk1.held b1 (fun h => h)) (hk1.held b0 (fun h => h)) ?_ ?_ (Ne.symm hne)).mono ?_
    · exact (hk1.frozen (p := ⟨pk, 0, none⟩) (show pk < W.heap.size by omega) (fun h => h)).trans e1
    · exact (hk1.frozen (p := ⟨pl, 0, none⟩) (show pl < W.heap.size by have := HPL.out.2; omega) (fun h => h)).trans e0
    rintro e w' ⟨rfl, v, L, q1, q2, q3, q4, q5, q6, q7, q8⟩
    have hgb : (W.alloc (.cells #[.bool false] 4)).heap[W.heap.size]? = some (.cells #[.bool false] 4) := heap_alloc_new _ _
    have hlt : W.heap.size < (W.alloc (.cells #[.bool false] 4)).heap.size := by omega
    have hnS : ¬ (W.heap.size = pk ∨ W.heap.size = pl) := by have := HPL.out.2; omega
    refine ⟨rfl, ⟨v, L, q1, q2, q3, q4, q5, q6, q7, q8⟩, ?_, ?_⟩
    · exact (q6.cell (p := ⟨W.heap.size, 0, none⟩) hlt hnS).trans (cell_of_row _ _ 0 _ _ _ hgb)
    · refine (q6.frozen (p := ⟨W.heap.size, 0, none⟩) hlt hnS).trans ?_
      simp only [World.frozen?, hgb]
      rfl
  rintro e w2 ⟨rfl, w3, ⟨v, L, q1, q2, q3, q4, q5, q6, q7, q8⟩, hw2⟩
  have hS2 : Kept w3 w2 (fun k => k = W.heap.size) := by rw [hw2]; exact (Kept.refl w3 (fun k => k = W.heap.size)).setCell (p := ⟨W.heap.size, 0, none⟩) (.inl rfl) _
  have hplk := HPL.out.2
  have d1 : w2.cell? ⟨pk, 0, none⟩ = some (.bool true) := hS2.held q1 (show ¬ pk = W.heap.size by omega)
  have d2 : w2.cell? ⟨pl, 0, none⟩ = some v := hS2.held q2 (show ¬ pl = W.heap.size by omega)
  have g1 : w2.frozen? ⟨pk, 0, none⟩ = false := by rw [hw2, World.frozen?_setCell]; exact q7
  have g2 : w2.frozen? ⟨pl, 0, none⟩ = false := by rw [hw2, World.frozen?_setCell]; exact q8
  have hpu : Puts w2 (W.heap.size + 1) v L D := by rw [hb1] at q3; exact q3.kept hS2 (fun j hj e => by omega)
  have hKW : Kept W w2 (fun k => k = pk ∨ k = pl) := ((hk1.mono (S := fun k => k = pk ∨ k = pl) (fun _ _ h => h.elim)).trans q6 (fun _ _ h => h)).trans hS2 (fun k hk e => by omega)
  have hknd : ks.Nodup := HF.out.up.imp (fun h => Nat.ne_of_lt h)
  have hperm : (L.map Prod.fst).Perm ks := (List.perm_ext_iff_of_nodup q4 hknd).2 q5
  have hLl : L.length = ks.length := by have h := hperm.length_eq; rw [List.length_map] at h; exact h
  obtain ⟨g, c', rfl, hg1, hg2⟩ := hpu.row.form (by omega)
  have HPU := Go.Lib.hid hpu
  have HLL2 := Go.Lib.hid hLl
  have HPERM := Go.Lib.hid hperm
  have HND := Go.Lib.hid q4
  have HKW := Go.Lib.hid hKW
  obtain ⟨nk, hnk⟩ : ∃ nk, ks.length = nk := ⟨_, rfl⟩
  rw [hLl, hnk] at d2
  have hro := hpu.row
  rw [hLl, hnk] at hro
  have HRO := Go.Lib.hid hro
  have HNK := Go.Lib.hid hnk
  have hnk12 : nk ≤ 12 := by have := HF.out.n1; omega
  have hnk1 : 1 ≤ nk := by omega
  clear q1 q2 q3 q4 q5 q6 q7 q8 hw2 hS2 hk1 hb1 e0 e1 b0 b1 b2 hpu hKW hknd hperm hLl hro hnk
  go_wp2_with (fail)
  refine (sortFunc_any (W.heap.size + 1) g nk c' L w2 HRO.out (by rw [HLL2.out, HNK.out]) HND.out hnk1 hnk12 (fun x hx => ⟨by
    have h1 := HPERM.out.mem_iff.1 (List.mem_map_of_mem hx)
    have := HF.out.lt _ h1
    omega, (HPU.out.dat x hx).2.1⟩)).mono ?_
  rintro e w4 ⟨rfl, L', p1, p2, p3, p4⟩
  have k1 := p4.held d1 (show ¬ pk = g by omega)
  have k2 := p4.held d2 (show ¬ pl = g by omega)
  have m1 := (p4.frozen (p := ⟨pk, 0, none⟩) (World.block_lt_of_cell? w2 _ d1) (show ¬ pk = g by omega)).trans g1
  have m2 := (p4.frozen (p := ⟨pl, 0, none⟩) (World.block_lt_of_cell? w2 _ d2) (show ¬ pl = g by omega)).trans g2
  have H1 := Go.Lib.hid p1
  have H2 := Go.Lib.hid p2
  have H3 := Go.Lib.hid p3
  have H4 := Go.Lib.hid p4
  clear p1 p2 p3 p4 d1 d2 g1 g2
  go_wp2_with (fail)
  have hplk := HPL.out.2
  have n12 : (⟨pl, 0, none⟩ : Addr) ≠ ⟨pk, 0, none⟩ := by intro e; injection e with e; omega
  have x1 : World.cell? ((w4.setCell ⟨pl, 0, none⟩ (.slice (some ⟨g, 0, none⟩) nk c')).setCell ⟨pk, 0, none⟩ (.bool true)) ⟨pl, 0, none⟩ = some (.slice (some ⟨g, 0, none⟩) nk c') := by
    rw [World.cell?_setCell_other _ _ _ _ (Ne.symm n12)]
    exact World.cell?_setCell_same _ _ _ k2
  have x2 : World.cell? ((w4.setCell ⟨pl, 0, none⟩ (.slice (some ⟨g, 0, none⟩) nk c')).setCell ⟨pk, 0, none⟩ (.bool true)) ⟨pk, 0, none⟩ = some (.bool true) :=
    World.cell?_setCell_same _ _ _ ((World.cell?_setCell_other _ _ _ _ n12).trans k1)
  have hK5 : Kept w4 ((w4.setCell ⟨pl, 0, none⟩ (.slice (some ⟨g, 0, none⟩) nk c')).setCell ⟨pk, 0, none⟩ (.bool true)) (fun k => k = pk ∨ k = pl) :=
    ((Kept.refl w4 (fun k => k = pk ∨ k = pl)).setCell (p := ⟨pl, 0, none⟩) (.inl (.inr rfl)) _).setCell (p := ⟨pk, 0, none⟩) (.inl (.inl rfl)) _
  have hFW : Fresh w ((w4.setCell ⟨pl, 0, none⟩ (.slice (some ⟨g, 0, none⟩) nk c')).setCell ⟨pk, 0, none⟩ (.bool true)) :=
    (((HF2.out.mono (S := fun k => k = pk ∨ k = pl ∨ k = g) (fun _ _ h => h.elim)).trans HKW.out (fun k hk e => by rcases e with e | e; exact .inl e; exact .inr (.inl e))).trans H4.out (fun k hk e => .inr (.inr e))).trans hK5 (fun k hk e => by rcases e with e | e; exact .inl e; exact .inr (.inl e)) |>.mono (fun k hk e => by have := HPL.out.1; omega)
  have hro5 := (H3.out.kept hK5 (fun j hj e => by have h1 : g = j := Option.some.inj hj; omega))
  have hws := HF2.out.size
  have hfst : L'.map Prod.fst = ks := by
    refine sorted_one (List.pairwise_iff_getElem.2 fun a b ha hb hab => ?_) HF.out.up (fun k => ((H1.out.map Prod.fst).mem_iff).trans HPERM.out.mem_iff)
    have h := H2.out a b (by simpa using ha) (by simpa using hb) hab (by simpa using hb)
    simpa using h
  refine bodyPost_ret (v := .tuple #[.slice (some ⟨g, 0, none⟩) nk c', .bool true]) (by simp [results, Try.results31, go_sem, x1, x2]) rfl ⟨g, c', L', by rw [HNK.out], by rw [HNK.out]; exact hro5.lower (by omega), hfst, fun x hx => ?_, hFW⟩
  obtain ⟨b1, b2, b3⟩ := HPU.out.dat x (H1.out.mem_iff.1 hx)
  exact (b1.kept H4.out (fun j hj e => (b3 j hj).2 (by rw [e]; rfl))).kept hK5 (fun j hj e => by have := (b3 j hj).1; omega)
end Go.Proofs.Ytahcaoenddapoaa
