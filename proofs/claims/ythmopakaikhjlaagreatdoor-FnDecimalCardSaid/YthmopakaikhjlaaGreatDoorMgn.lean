/- spec.magnitude, spec.known, spec.DecimalColumn: a decimal's column. -/
import Derived.Test.YthmopakaikhjlaaGreatDoorZed
namespace Go.Proofs.YthmopakaikhjlaaGreatDoor
open Go.RowKit

set_option maxRecDepth 100000 in
theorem mag_any (p : Nat) (hp : p ≤ 38) (w : World) : Calls Tryz.prog 9 #[.int .i64 (p : Int)] w fun e w' => e = .returned (.int .i64 (mag p : Int)) ∧ w' = w := by
  unfold mag
  go_enter Tryz.func9, Tryz.ntmps9
  by_cases h2 : p ≤ 9
  · have h2' : (p : Int) ≤ 9 := by omega
    rw [if_pos h2]
    go_wp2
    go_ret
    simp
  · have h2' : ¬ (p : Int) ≤ 9 := by omega
    rw [if_neg h2]
    by_cases h4 : p ≤ 19
    · have h4' : (p : Int) ≤ 19 := by omega
      rw [if_pos h4]
      go_wp2
      go_ret
      simp
    · have h4' : ¬ (p : Int) ≤ 19 := by omega
      rw [if_neg h4]
      by_cases h5 : p ≤ 28
      · have h5' : (p : Int) ≤ 28 := by omega
        rw [if_pos h5]
        go_wp2
        go_ret
        simp
      · have h5' : ¬ (p : Int) ≤ 28 := by omega
        rw [if_neg h5]
        go_wp2
        go_ret
        simp

/-- A column of decimals; a value that has digits. -/
@[reducible] def colv (sz p s : Int) : Value := .agg #[.int .i64 0, .int .i64 106, .int .i64 sz, .int .i64 p, .int .i64 s, .string ⟨#[]⟩]
@[reducible] def cellv (s : ByteArray) : Value := .agg #[.bool false, .int .i64 0, .float .f64 0, .string ⟨#[]⟩, .slice none 0 0, .string s, .int .i64 0, .int .i64 0, .int .i64 0]

theorem mag_at (p : Nat) (hp : p ≤ 38) (m : Int) (hm : (mag p : Int) = m) (w : World) : Calls Tryz.prog 9 #[.int .i64 (p : Int)] w fun e w' => e = .returned (.int .i64 m) ∧ w' = w := by
  subst hm
  exact mag_any p hp w

set_option maxRecDepth 100000 in
set_option maxHeartbeats 1000000 in
theorem known_good (p : Nat) (s m : Int) (hp0 : 1 ≤ p) (hp : p ≤ 38) (hm : (mag p : Int) = m) (h5 : 0 ≤ s) (h6 : s ≤ (p : Int)) (w : World) : Calls Tryz.prog 10 #[colv (1 + m) (p : Int) s] w fun e w' => e = .returned (.bool true) ∧ Fresh w w' := by
  have hund : undef = Value.tuple #[] := rfl
  have h1 : (1 : Int) ≤ (p : Int) := by omega
  have h2 : (p : Int) ≤ 38 := by omega
  have h8 : ¬ (p : Int) = 0 := by omega
  have h3 : m ≤ 16 := by rw [← hm]; unfold mag; split <;> (try split) <;> (try split) <;> decide
  have h4 : 0 ≤ m := by rw [← hm]; exact Int.natCast_nonneg _
  have HM := Go.Lib.hid hm
  have hF0 : Fresh w (w.alloc (.cells #[.int .i64 0, .int .i64 106, .int .i64 (1 + m), .int .i64 (p : Int), .int .i64 s, .string ⟨#[]⟩] 23)) := (Kept.refl w _).alloc _
  have HF0 := Go.Lib.hid hF0
  clear hm hF0
  go_enter Tryz.func10, Tryz.ntmps10
  go_upto_region 15 with (fail)
  go_quiet (first | (go_at_call 9; refine Calls.quiet_of_same (mag_at p hp m HM.out _)))
  go_wp2
  go_ret
  exact ⟨rfl, (HF0.out).drewN _⟩

set_option maxRecDepth 100000 in
set_option maxHeartbeats 1000000 in
theorem known_neg (p : Nat) (s m : Int) (hp0 : 1 ≤ p) (hp : p ≤ 38) (hm : (mag p : Int) = m) (h5 : s < 0) (w : World) : Calls Tryz.prog 10 #[colv (1 + m) (p : Int) s] w fun e w' => e = .returned (.bool false) ∧ Fresh w w' := by
  have hund : undef = Value.tuple #[] := rfl
  have h1 : (1 : Int) ≤ (p : Int) := by omega
  have h2 : (p : Int) ≤ 38 := by omega
  have h8 : ¬ (p : Int) = 0 := by omega
  have h3 : m ≤ 16 := by rw [← hm]; unfold mag; split <;> (try split) <;> (try split) <;> decide
  have h4 : 0 ≤ m := by rw [← hm]; exact Int.natCast_nonneg _
  have h7 : ¬ 0 ≤ s := by omega
  have HM := Go.Lib.hid hm
  have hF0 : Fresh w (w.alloc (.cells #[.int .i64 0, .int .i64 106, .int .i64 (1 + m), .int .i64 (p : Int), .int .i64 s, .string ⟨#[]⟩] 23)) := (Kept.refl w _).alloc _
  have HF0 := Go.Lib.hid hF0
  clear hm hF0
  go_enter Tryz.func10, Tryz.ntmps10
  go_upto_region 15 with (fail)
  go_quiet (first | (go_at_call 9; refine Calls.quiet_of_same (mag_at p hp m HM.out _)))
  go_wp2
  go_ret
  exact ⟨rfl, (HF0.out).drewN _⟩

set_option maxRecDepth 100000 in
set_option maxHeartbeats 1000000 in
theorem known_big (p : Nat) (s m : Int) (hp0 : 1 ≤ p) (hp : p ≤ 38) (hm : (mag p : Int) = m) (h5 : 0 ≤ s) (h6 : (p : Int) < s) (w : World) : Calls Tryz.prog 10 #[colv (1 + m) (p : Int) s] w fun e w' => e = .returned (.bool false) ∧ Fresh w w' := by
  have hund : undef = Value.tuple #[] := rfl
  have h1 : (1 : Int) ≤ (p : Int) := by omega
  have h2 : (p : Int) ≤ 38 := by omega
  have h8 : ¬ (p : Int) = 0 := by omega
  have h3 : m ≤ 16 := by rw [← hm]; unfold mag; split <;> (try split) <;> (try split) <;> decide
  have h4 : 0 ≤ m := by rw [← hm]; exact Int.natCast_nonneg _
  have h7 : ¬ s ≤ (p : Int) := by omega
  have HM := Go.Lib.hid hm
  have hF0 : Fresh w (w.alloc (.cells #[.int .i64 0, .int .i64 106, .int .i64 (1 + m), .int .i64 (p : Int), .int .i64 s, .string ⟨#[]⟩] 23)) := (Kept.refl w _).alloc _
  have HF0 := Go.Lib.hid hF0
  clear hm hF0
  go_enter Tryz.func10, Tryz.ntmps10
  go_upto_region 15 with (fail)
  go_quiet (first | (go_at_call 9; refine Calls.quiet_of_same (mag_at p hp m HM.out _)))
  go_wp2
  go_ret
  exact ⟨rfl, (HF0.out).drewN _⟩

/-- A column in a block. -/
structure Clm (w : World) (b : Nat) (k sz p s : Int) : Prop where
  c0 : w.cell? ⟨b, 0, none⟩ = some (.int .i64 0)
  c1 : w.cell? ⟨b, 1, none⟩ = some (.int .i64 k)
  c2 : w.cell? ⟨b, 2, none⟩ = some (.int .i64 sz)
  c3 : w.cell? ⟨b, 3, none⟩ = some (.int .i64 p)
  c4 : w.cell? ⟨b, 4, none⟩ = some (.int .i64 s)
  c5 : w.cell? ⟨b, 5, none⟩ = some (.string ⟨#[]⟩)
  f : ∀ j, j < 6 → w.frozen? ⟨b, j, none⟩ = false
theorem Clm.new (w : World) (k sz p s : Int) : Clm (w.alloc (.cells #[.int .i64 0, .int .i64 k, .int .i64 sz, .int .i64 p, .int .i64 s, .string ⟨#[]⟩] 23)) w.heap.size k sz p s :=
  have h := heap_alloc_new w (.cells #[.int .i64 0, .int .i64 k, .int .i64 sz, .int .i64 p, .int .i64 s, .string ⟨#[]⟩] 23)
  ⟨cell_of_row _ _ 0 _ _ _ h, cell_of_row _ _ 1 _ _ _ h, cell_of_row _ _ 2 _ _ _ h, cell_of_row _ _ 3 _ _ _ h, cell_of_row _ _ 4 _ _ _ h, cell_of_row _ _ 5 _ _ _ h, fun j _ => frozen_of_row _ _ j _ _ h⟩
theorem Clm.lt {w : World} {b : Nat} {k sz p s : Int} (h : Clm w b k sz p s) : b < w.heap.size := World.block_lt_of_cell? w _ h.c0
theorem Clm.kept {w w' : World} {b : Nat} {k sz p s : Int} {S : Nat → Prop} (h : Clm w b k sz p s) (hk : Kept w w' S) (hS : ¬ S b) : Clm w' b k sz p s :=
  ⟨hk.held h.c0 hS, hk.held h.c1 hS, hk.held h.c2 hS, hk.held h.c3 hS, hk.held h.c4 hS, hk.held h.c5 hS, fun j hj => (hk.frozen (p := ⟨b, j, none⟩) h.lt hS).trans (h.f j hj)⟩
theorem Clm.fresh {w w' : World} {b : Nat} {k sz p s : Int} (h : Clm w b k sz p s) (hk : Fresh w w') : Clm w' b k sz p s := h.kept hk (fun h => h)

theorem Clm.put {w : World} {b : Nat} {k0 a0 b0 d0 : Int} (h : Clm w b k0 a0 b0 d0) (k sz p s : Int) : ∃ X, X = ((((((w.setCell ⟨b, 0, none⟩ (.int .i64 0)).setCell ⟨b, 1, none⟩ (.int .i64 k)).setCell ⟨b, 2, none⟩ (.int .i64 sz)).setCell ⟨b, 3, none⟩ (.int .i64 p)).setCell ⟨b, 4, none⟩ (.int .i64 s)).setCell ⟨b, 5, none⟩ (.string ⟨#[]⟩)) ∧ Clm X b k sz p s ∧ Kept w X (fun k => k = b) := by
  have o : ∀ (W : World) (i j : Nat) (v : Value), i ≠ j → (W.setCell ⟨b, i, none⟩ v).cell? ⟨b, j, none⟩ = W.cell? ⟨b, j, none⟩ := fun W i j v hij => World.cell?_setCell_other _ _ _ _ (by intro e; injection e with e1 e2; exact hij e2)
  have sm : ∀ (W : World) (j : Nat) (v u : Value), W.cell? ⟨b, j, none⟩ = some u → (W.setCell ⟨b, j, none⟩ v).cell? ⟨b, j, none⟩ = some v := fun W j v u h => World.cell?_setCell_same _ _ _ h
  refine ⟨_, rfl, ⟨?_, ?_, ?_, ?_, ?_, ?_, fun j hj => ?_⟩, ((((((Kept.refl w (fun k => k = b)).setCell (p := ⟨b, 0, none⟩) (.inl rfl) _).setCell (p := ⟨b, 1, none⟩) (.inl rfl) _).setCell (p := ⟨b, 2, none⟩) (.inl rfl) _).setCell (p := ⟨b, 3, none⟩) (.inl rfl) _).setCell (p := ⟨b, 4, none⟩) (.inl rfl) _).setCell (p := ⟨b, 5, none⟩) (.inl rfl) _⟩
  · rw [o _ 5 0 _ (by decide), o _ 4 0 _ (by decide), o _ 3 0 _ (by decide), o _ 2 0 _ (by decide), o _ 1 0 _ (by decide)]; exact sm _ 0 _ _ (by exact h.c0)
  · rw [o _ 5 1 _ (by decide), o _ 4 1 _ (by decide), o _ 3 1 _ (by decide), o _ 2 1 _ (by decide)]; exact sm _ 1 _ _ (by rw [o _ 0 1 _ (by decide)]; exact h.c1)
  · rw [o _ 5 2 _ (by decide), o _ 4 2 _ (by decide), o _ 3 2 _ (by decide)]; exact sm _ 2 _ _ (by rw [o _ 1 2 _ (by decide), o _ 0 2 _ (by decide)]; exact h.c2)
  · rw [o _ 5 3 _ (by decide), o _ 4 3 _ (by decide)]; exact sm _ 3 _ _ (by rw [o _ 2 3 _ (by decide), o _ 1 3 _ (by decide), o _ 0 3 _ (by decide)]; exact h.c3)
  · rw [o _ 5 4 _ (by decide)]; exact sm _ 4 _ _ (by rw [o _ 3 4 _ (by decide), o _ 2 4 _ (by decide), o _ 1 4 _ (by decide), o _ 0 4 _ (by decide)]; exact h.c4)
  · exact sm _ 5 _ _ (by rw [o _ 4 5 _ (by decide), o _ 3 5 _ (by decide), o _ 2 5 _ (by decide), o _ 1 5 _ (by decide), o _ 0 5 _ (by decide)]; exact h.c5)
  · rw [World.frozen?_setCell, World.frozen?_setCell, World.frozen?_setCell, World.frozen?_setCell, World.frozen?_setCell, World.frozen?_setCell]; exact h.f j hj

/-- What is held of the world all through the last statement. -/
structure CS (w0 : World) (c : Nat) (sz p s : Int) (w : World) : Prop where
  k : Clm w c 106 sz p s
  fr : Fresh w0 w
theorem CS.fresh {w0 w w' : World} {c : Nat} {sz p s : Int} (h : CS w0 c sz p s w) (hk : Fresh w w') : CS w0 c sz p s w' := ⟨h.k.fresh hk, h.fr.fresh hk⟩

theorem cols2_new (w : World) (sz p s : Int) : ∃ W, W = (w.alloc (.cells #[.int .i64 0, .int .i64 0, .int .i64 0, .int .i64 0, .int .i64 0, .string ⟨#[]⟩] 23)).alloc (.cells #[.int .i64 0, .int .i64 106, .int .i64 sz, .int .i64 p, .int .i64 s, .string ⟨#[]⟩] 23) ∧ CS w (w.heap.size + 1) sz p s W ∧ Clm W w.heap.size 0 0 0 0 := by
  refine ⟨_, rfl, ⟨?_, ((Kept.refl w _).alloc _).alloc _⟩, (Clm.new w 0 0 0 0).fresh ((Kept.refl _ _).alloc _)⟩
  have h := Clm.new (w.alloc (.cells #[.int .i64 0, .int .i64 0, .int .i64 0, .int .i64 0, .int .i64 0, .string ⟨#[]⟩] 23)) 106 sz p s
  rw [size_new] at h
  exact h

set_option maxRecDepth 100000 in
set_option maxHeartbeats 1000000 in
theorem column_of (p : Nat) (s m : Int) (b : Bool) (hp0 : 1 ≤ p) (hp : p ≤ 38) (hm : (mag p : Int) = m) (hk : ∀ w : World, Calls Tryz.prog 10 #[colv (1 + m) (p : Int) s] w fun e w' => e = .returned (.bool b) ∧ Fresh w w') (w : World) :
    Calls Tryz.prog 4 #[.int .i64 (p : Int), .int .i64 s] w fun e w' => e = .returned (.tuple #[colv (1 + m) (p : Int) s, .bool b]) ∧ Fresh w w' := by
  have hund : undef = Value.tuple #[] := rfl
  have h1 : ¬ (p : Int) < 1 := by omega
  have h2 : ¬ 38 < (p : Int) := by omega
  have h3 : m ≤ 16 := by rw [← hm]; unfold mag; split <;> (try split) <;> (try split) <;> decide
  have h4 : 0 ≤ m := by rw [← hm]; exact Int.natCast_nonneg _
  obtain ⟨W, hWe, hCS, hZ⟩ := cols2_new w (1 + m) (p : Int) s
  have HM := Go.Lib.hid hm
  have HK := Go.Lib.hid hk
  have HW := Go.Lib.hid hWe
  have HCS := Go.Lib.hid hCS
  have HZ := Go.Lib.hid hZ
  clear hm hk hWe hCS hZ
  go_enter Tryz.func4, Tryz.ntmps4
  go_wp2_with (fail)
  refine (mag_at p hp m HM.out _).mono ?_
  rintro e w1 ⟨rfl, rfl⟩
  have e1 : IntKind.i64.wrap (1 + m) = 1 + m := IntWalk.i64_in _ (by omega)
  go_upto_region 4 with (fail)
  have hWe := HW.out
  rw [← hWe]
  clear hWe HW e1
  generalize hr : w.heap.size = r at *
  have hd4 := HCS.out.fresh (Kept.refl _ _).drew
  have hz4 := HZ.out.fresh (Kept.refl _ _).drew
  clear HCS HZ
  refine reg_open (S := CS w (r + 1) (1 + m) (p : Int) s) 5 #[false, false, false, false, false] (by kernel_rfl) (by kernel_rfl) (by kernel_rfl) (by intro c a d v w h; cases d <;> exact h) (by kernel_rfl) (fun OPS QQ HO HQ hQP hSel => ?_)
  generalize W.drew = v0 at *
  refine reg_take (i := 0) (oi := ?o_1) (v := ?v_1) (listed' := #[true, false, false, false, false]) HO ?hi_1 hSel ?hf_1 ?hr_1 hQP (by kernel_rfl) ?hw_1 ?h_1 hd4 ?_
  case hi_1 => (simp only [List.getElem?_toArray, List.getElem?_cons_zero]; rfl)
  case hf_1 => kernel_rfl
  case hr_1 => kernel_rfl
  case hw_1 => rfl
  case h_1 => (intro W hSw; obtain ⟨c0, c1, c2, c3, c4, c5, cf⟩ := hSw.k; go_simp; first | done | with_reducible rfl)
  (try simp only [Act.put]); (try simp only [List.setIfInBounds_toArray]); (try simp only [List.set_cons_zero]); (try simp only [List.set_cons_succ])
  refine reg_take (i := 1) (oi := ?o_2) (v := ?v_2) (listed' := #[true, true, false, false, false]) HO ?hi_2 hSel ?hf_2 ?hr_2 hQP (by kernel_rfl) ?hw_2 ?h_2 hd4 ?_
  case hi_2 => (simp only [List.getElem?_toArray, List.getElem?_cons_succ, List.getElem?_cons_zero]; rfl)
  case hf_2 => kernel_rfl
  case hr_2 => kernel_rfl
  case hw_2 => rfl
  case h_2 => (intro W hSw; obtain ⟨c0, c1, c2, c3, c4, c5, cf⟩ := hSw.k; go_simp; first | done | with_reducible rfl)
  (try simp only [Act.put]); (try simp only [List.setIfInBounds_toArray]); (try simp only [List.set_cons_zero]); (try simp only [List.set_cons_succ])
  refine reg_one (i := 2) (o := ?o_3) (listed' := #[true, true, true, false, false]) HO ?hi_3 ?hr_3 (by kernel_rfl) ?hw_3 (fun K hK => ?_)
  case hi_3 => (simp only [List.getElem?_toArray, List.getElem?_cons_succ, List.getElem?_cons_zero]; rfl)
  case hr_3 => kernel_rfl
  case hw_3 => rfl
  go_simp
  go_at_call 10
  refine (HK.out _).mono ?_
  rintro e x1 ⟨rfl, hF1⟩
  have hz5 := hz4.fresh hF1
  obtain ⟨X, hXe, hXr, hXk⟩ := hz5.put 106 (1 + m) (p : Int) s
  have HXE := Go.Lib.hid hXe
  have HXR := Go.Lib.hid hXr
  have HXK := Go.Lib.hid hXk
  clear hXe hXr hXk
  refine hK.out _ _ (CS.fresh hd4 hF1) (fun hX1 => ?_)
  clear hK K hF1 hd4 hz4
  obtain ⟨z0, z1, z2, z3, z4, z5, zf⟩ := hz5
  have f0 := zf 0 (by decide)
  have f1 := zf 1 (by decide)
  have f2 := zf 2 (by decide)
  have f3 := zf 3 (by decide)
  have f4 := zf 4 (by decide)
  have f5 := zf 5 (by decide)
  refine reg_one (i := 3) (o := ?o_4) (listed' := #[true, true, true, true, false]) HO ?hi_4 ?hr_4 (by kernel_rfl) ?hw_4 (fun K hK => ?_)
  case hi_4 => (simp only [List.getElem?_toArray, List.getElem?_cons_succ, List.getElem?_cons_zero]; rfl)
  case hr_4 => kernel_rfl
  case hw_4 => rfl
  go_simp
  have hXe := HXE.out
  rw [← hXe]
  have hcx : CS w (r + 1) (1 + m) (p : Int) s X := ⟨hX1.k.kept HXK.out (by omega), (hX1.fr.trans HXK.out (fun k hk e => by omega))⟩
  refine hK.out _ _ hcx (fun hX2 => ?_)
  clear hK K hX1 hcx hXe HXE z0 z1 z2 z3 z4 z5 f0 f1 f2 f3 f4 f5 zf
  refine reg_take (i := 4) (oi := ?o_5) (v := ?v_5) (listed' := #[true, true, true, true, true]) HO ?hi_5 hSel ?hf_5 ?hr_5 hQP (by kernel_rfl) ?hw_5 ?h_5 hX2 ?_
  case hi_5 => (simp only [List.getElem?_toArray, List.getElem?_cons_succ, List.getElem?_cons_zero]; rfl)
  case hf_5 => kernel_rfl
  case hr_5 => kernel_rfl
  case hw_5 => rfl
  case h_5 => (intro W hSw; go_simp; first | done | with_reducible rfl)
  (try simp only [Act.put]); (try simp only [List.setIfInBounds_toArray]); (try simp only [List.set_cons_zero]); (try simp only [List.set_cons_succ])
  refine reg_done HO HQ (by kernel_rfl) ?_
  obtain ⟨r0, r1, r2, r3, r4, r5, rf⟩ := HXR.out
  have HF := Go.Lib.hid hX2.fr
  clear hX2 HO HQ hQP hSel HXK
  go_wp2
  refine bodyPost_ret (v := .tuple #[colv (1 + m) (p : Int) s, .bool b]) (by simp [results, Tryz.results4, go_sem, r0, r1, r2, r3, r4, r5]) rfl ⟨rfl, HF.out⟩
end Go.Proofs.YthmopakaikhjlaaGreatDoor
