/- Decimal.BigInt. -/
import Derived.Test.YthmopakaikhjlaaGreatDoorBpu
import Derived.StillTailTactics
import Derived.Deep.Cut
namespace Go.Proofs.YthmopakaikhjlaaGreatDoor
open Go.RowKit

/-- A Decimal's seven cells. -/
@[reducible] def decCells (x0 x1 x2 x3 : Nat) (p : Bool) (pr sc : Int) : Array Value := #[.int .u32 (x0 : Int), .int .u32 (x1 : Int), .int .u32 (x2 : Int), .int .u32 (x3 : Int), .bool p, .int .u8 pr, .int .u8 sc]
/-- The Decimal in the block d. -/
structure Deci (w : World) (d : Nat) (x0 x1 x2 x3 : Nat) (p : Bool) (pr sc : Int) : Prop where
  c0 : w.cell? ⟨d, 0, none⟩ = some (.int .u32 (x0 : Int))
  c1 : w.cell? ⟨d, 1, none⟩ = some (.int .u32 (x1 : Int))
  c2 : w.cell? ⟨d, 2, none⟩ = some (.int .u32 (x2 : Int))
  c3 : w.cell? ⟨d, 3, none⟩ = some (.int .u32 (x3 : Int))
  c4 : w.cell? ⟨d, 4, none⟩ = some (.bool p)
  c5 : w.cell? ⟨d, 5, none⟩ = some (.int .u8 pr)
  c6 : w.cell? ⟨d, 6, none⟩ = some (.int .u8 sc)

theorem Deci.kept {w w' : World} {d x0 x1 x2 x3 : Nat} {p : Bool} {pr sc : Int} {S : Nat → Prop} (h : Deci w d x0 x1 x2 x3 p pr sc) (hk : Kept w w' S) (hS : ¬ S d) : Deci w' d x0 x1 x2 x3 p pr sc :=
  ⟨hk.held h.c0 hS, hk.held h.c1 hS, hk.held h.c2 hS, hk.held h.c3 hS, hk.held h.c4 hS, hk.held h.c5 hS, hk.held h.c6 hS⟩
theorem Deci.lt {w : World} {d x0 x1 x2 x3 : Nat} {p : Bool} {pr sc : Int} (h : Deci w d x0 x1 x2 x3 p pr sc) : d < w.heap.size := World.block_lt_of_cell? w _ h.c0
theorem heap_new (w : World) (o : Obj) : (w.alloc o).heap[w.heap.size]? = some o := Array.getElem?_push_size
theorem Deci.new (w : World) (x0 x1 x2 x3 : Nat) (p : Bool) (pr sc : Int) (T : TypeId) : Deci (w.alloc (.cells (decCells x0 x1 x2 x3 p pr sc) T)) w.heap.size x0 x1 x2 x3 p pr sc := by
  constructor <;> exact cell_of_row _ _ _ _ T (0, 0) (heap_new w _)
theorem Big.new (w : World) (T : TypeId) : Big (w.alloc (.cells #[.bool false, .slice none 0 0] T)) w.heap.size false (.slice none 0 0) :=
  ⟨cell_of_row _ _ _ _ T (0, 0) (heap_new w _), cell_of_row _ _ _ _ T (0, 0) (heap_new w _), fun j => frozen_of_row _ _ j _ T (heap_new w _), _, T, heap_new w _⟩
theorem size_new (w : World) (o : Obj) : (w.alloc o).heap.size = w.heap.size + 1 := Array.size_push ..

theorem four_eq (x : Nat) (h : x < 4294967296) : x / 16777216 % 256 * 16777216 + x / 65536 % 256 * 65536 + x / 256 % 256 * 256 + x % 256 = x := by omega
theorem put16 (x0 x1 x2 x3 : Nat) : put4 (put4 (put4 (put4 (List.replicate 16 0) 0 x3) 4 x2) 8 x1) 12 x0 = [x3 / 16777216 % 256, x3 / 65536 % 256, x3 / 256 % 256, x3 % 256, x2 / 16777216 % 256, x2 / 65536 % 256, x2 / 256 % 256, x2 % 256, x1 / 16777216 % 256, x1 / 65536 % 256, x1 / 256 % 256, x1 % 256, x0 / 16777216 % 256, x0 / 65536 % 256, x0 / 256 % 256, x0 % 256] := rfl
/-- The number of a Decimal's four words. -/
def dn (x0 x1 x2 x3 : Nat) : Nat := (x3 * 4294967296 + x2) * 18446744073709551616 + (x1 * 4294967296 + x0)
theorem put_w8 (x0 x1 x2 x3 : Nat) (h0 : x0 < 4294967296) (h1 : x1 < 4294967296) (h2 : x2 < 4294967296) (h3 : x3 < 4294967296) (M : List Nat) (hM : put4 (put4 (put4 (put4 (List.replicate 16 0) 0 x3) 4 x2) 8 x1) 12 x0 = M) :
    w8 (fun j => M.getD j 0) 0 * 18446744073709551616 + w8 (fun j => M.getD j 0) 8 = dn x0 x1 x2 x3 ∧ (∀ j, M.getD j 0 < 256) ∧ M.length = 16 := by
  rw [put16] at hM
  have e0 := four_eq x0 h0
  have e1 := four_eq x1 h1
  have e2 := four_eq x2 h2
  have e3 := four_eq x3 h3
  have hb : ∀ (b : Nat), b ∈ M → b < 256 := by
    rw [← hM]
    intro b hb
    simp only [List.mem_cons, List.not_mem_nil, or_false] at hb
    rcases hb with h | h | h | h | h | h | h | h | h | h | h | h | h | h | h | h <;> rw [h] <;> exact Nat.mod_lt _ (by decide)
  refine ⟨?_, fun j => ?_, by rw [← hM]; rfl⟩
  · rw [← hM]
    show ((x3 / 16777216 % 256 * 16777216 + x3 / 65536 % 256 * 65536 + x3 / 256 % 256 * 256 + x3 % 256) * 4294967296 + (x2 / 16777216 % 256 * 16777216 + x2 / 65536 % 256 * 65536 + x2 / 256 % 256 * 256 + x2 % 256)) * 18446744073709551616 + ((x1 / 16777216 % 256 * 16777216 + x1 / 65536 % 256 * 65536 + x1 / 256 % 256 * 256 + x1 % 256) * 4294967296 + (x0 / 16777216 % 256 * 16777216 + x0 / 65536 % 256 * 65536 + x0 / 256 % 256 * 256 + x0 % 256)) = _
    rw [e0, e1, e2, e3]
    rfl
  · rw [List.getD_eq_getElem?_getD]
    by_cases hj : j < M.length
    · rw [List.getElem?_eq_getElem hj]; exact hb _ (List.getElem_mem hj)
    · rw [List.getElem?_eq_none (by omega)]; decide

set_option maxRecDepth 100000 in
set_option maxHeartbeats 1000000 in
theorem bigInt_any (x0 x1 x2 x3 : Nat) (p : Bool) (pr sc : Int) (w : World) (h0 : x0 < 4294967296) (h1 : x1 < 4294967296) (h2 : x2 < 4294967296) (h3 : x3 < 4294967296) (hp : p = false → dn x0 x1 x2 x3 ≠ 0) :
    Calls Tryz.prog 32 #[.agg (decCells x0 x1 x2 x3 p pr sc)] w fun e w' => ∃ neg A n c L', e = .returned (.agg #[.bool neg, .slice A n c]) ∧ Nt w' w.heap.size (.slice A n c) L' ∧ nv L' = dn x0 x1 x2 x3 ∧ L'.length = n ∧ n ≤ 2 ∧ Top L' ∧ Fresh w w' := by
  obtain ⟨i0, hi, hz0, hz1, hz2⟩ := info_parts info5
  go_enter Tryz.func32, Tryz.ntmps32
  go_upto_region 1 with (fail)
  have hD := (Deci.new w x0 x1 x2 x3 p pr sc 55).kept (Kept.refl _ (fun _ => False) |>.alloc (.cells #[.bool false, .slice none 0 0] 61)) (fun h => h)
  have hB := Big.new (w.alloc (.cells (decCells x0 x1 x2 x3 p pr sc) 55)) 61
  have hF : Fresh w ((w.alloc (.cells (decCells x0 x1 x2 x3 p pr sc) 55)).alloc (.cells #[.bool false, .slice none 0 0] 61)) := ((Kept.refl w _).alloc _).alloc _
  have hs : (w.alloc (.cells (decCells x0 x1 x2 x3 p pr sc) 55)).heap.size = w.heap.size + 1 := size_new w _
  rw [hs] at hB
  clear hs
  generalize (w.alloc (.cells (decCells x0 x1 x2 x3 p pr sc) 55)).alloc (.cells #[.bool false, .slice none 0 0] 61) = W at *
  obtain ⟨d, hd⟩ : ∃ d, w.heap.size = d := ⟨_, rfl⟩
  rw [hd] at hD hB ⊢
  go_upto_region 2 with (at_make; refine wpList_make_full _ rfl _ _ 28 rfl W.heap.size 5 i0 (.int .u8 0) 1 Tryz.underlying28 hi hz0 hz1 .i64 .i64 _ _ 16 rfl rfl rfl rfl (by rw [hz2]; omega) (by unfold maxLen; omega) (Nat.le_refl _) ?_; intro w1 hown hgr)
  have hR : Row W.heap.size w1 (.slice (some ⟨W.heap.size, 0, none⟩) 16 16) (List.replicate 16 0) := RowK.of_own hown (by rw [Nat.mul_one]; show (madeCells #[.int .u8 0] _).toList = _; rw [toList_madeCells_one]; simp [ints]) rfl
  have hF1 : Fresh W w1 := (Kept.of_grown hgr).mono (fun _ _ h => by cases h)
  have hBW := hB
  replace hD := hD.kept hF1 (fun h => h)
  replace hB := hB.kept hF1 (fun h => h)
  replace hF := hF.trans hF1 (fun _ _ h => h)
  obtain ⟨g, hg⟩ : ∃ g, W.heap.size = g := ⟨_, rfl⟩
  rw [hg] at hR ⊢
  have hdg : d + 1 < g := by have := hB.lt; have := hF.size; rw [← hg]; have h8 := hBW.lt; omega
  clear hown hgr
  have c0 := hD.c3
  go_still_tail 5, (by kernel_rfl)
  go_wp2_with (fail)
  refine (bePut32_any g 0 16 16 4 16 g x3 (by omega) h3 _ _ (hR.fresh (Kept.refl _ _).drew) (by simp)).mono ?_
  rintro e w2 ⟨rfl, hR2, hK2⟩
  replace hK2 : Kept w1 w2 (fun k => k = g) := ((Kept.refl w1 _).drew).trans hK2 (fun _ _ h => h)
  replace hD := hD.kept hK2 (fun h => by omega)
  replace hB := hB.kept hK2 (fun h => by omega)
  replace hF : Fresh w w2 := hF.trans hK2 (fun _ _ h => by omega)
  clear c0 hK2
  go_upto_region 3 with (fail)
  have c0 := hD.c2
  go_still_tail 5, (by kernel_rfl)
  go_wp2_with (fail)
  refine (bePut32_any g 4 16 16 4 12 g x2 (by omega) h2 _ _ (hR2.fresh (Kept.refl _ _).drew) (by simp [put4])).mono ?_
  rintro e w3 ⟨rfl, hR3, hK3⟩
  replace hK3 : Kept w2 w3 (fun k => k = g) := ((Kept.refl w2 _).drew).trans hK3 (fun _ _ h => h)
  replace hD := hD.kept hK3 (fun h => by omega)
  replace hB := hB.kept hK3 (fun h => by omega)
  replace hF : Fresh w w3 := hF.trans hK3 (fun _ _ h => by omega)
  clear c0 hK3
  go_upto_region 4 with (fail)
  have c0 := hD.c1
  go_still_tail 5, (by kernel_rfl)
  go_wp2_with (fail)
  refine (bePut32_any g 8 16 16 4 8 g x1 (by omega) h1 _ _ (hR3.fresh (Kept.refl _ _).drew) (by simp [put4])).mono ?_
  rintro e w4 ⟨rfl, hR4, hK4⟩
  replace hK4 : Kept w3 w4 (fun k => k = g) := ((Kept.refl w3 _).drew).trans hK4 (fun _ _ h => h)
  replace hD := hD.kept hK4 (fun h => by omega)
  replace hB := hB.kept hK4 (fun h => by omega)
  replace hF : Fresh w w4 := hF.trans hK4 (fun _ _ h => by omega)
  clear c0 hK4
  go_upto_region 5 with (fail)
  have c0 := hD.c0
  go_still_tail 5, (by kernel_rfl)
  go_wp2_with (fail)
  refine (bePut32_any g 12 16 16 4 4 g x0 (by omega) h0 _ _ (hR4.fresh (Kept.refl _ _).drew) (by simp [put4])).mono ?_
  rintro e w5 ⟨rfl, hR5, hK5⟩
  replace hK5 : Kept w4 w5 (fun k => k = g) := ((Kept.refl w4 _).drew).trans hK5 (fun _ _ h => h)
  replace hD := hD.kept hK5 (fun h => by omega)
  replace hB := hB.kept hK5 (fun h => by omega)
  replace hF : Fresh w w5 := hF.trans hK5 (fun _ _ h => by omega)
  clear c0 hK5
  obtain ⟨M, hM⟩ : ∃ M, put4 (put4 (put4 (put4 (List.replicate 16 0) 0 x3) 4 x2) 8 x1) 12 x0 = M := ⟨_, rfl⟩
  rw [hM] at hR5
  go_upto_region 7 with (fail)
  obtain ⟨hv, hlt, hlen⟩ := put_w8 x0 x1 x2 x3 h0 h1 h2 h3 M hM
  have hF6 : Fresh w5 (w5.alloc (.cells #[.bool false, .slice none 0 0] 61)) := (Kept.refl w5 _).alloc _
  have hB6 := Big.new w5 61
  have hS6 : Six (w5.alloc (.cells #[.bool false, .slice none 0 0] 61)) g (fun j => M.getD j 0) := ⟨hlt, fun j hj => hF6.held (by
    have h8 := hR5.cellAt j (by omega)
    rw [h8]
    show _ = some (Value.int .u8 ((M.getD j 0 : Nat) : Int))
    rw [List.getD_eq_getElem?_getD, List.getElem?_eq_getElem (by omega)]
    rfl) (fun h => h)⟩
  replace hB := hB.kept hF6 (fun h => h)
  replace hD := hD.kept hF6 (fun h => h)
  have hg5 : g < w5.heap.size := (hR5.block g rfl).2
  replace hF := hF.trans hF6 (fun _ _ h => h)
  obtain ⟨ib, hib⟩ : ∃ ib, w5.heap.size = ib := ⟨_, rfl⟩
  rw [hib] at hB6 hg5 ⊢
  have hsz : ib < (w5.alloc (.cells #[.bool false, .slice none 0 0] 61)).heap.size := hB6.lt
  generalize w5.alloc (.cells #[.bool false, .slice none 0 0] 61) = W6 at *
  have H50 := intSetBytes_any g ib _ W6 hS6 hB6
  rw [hv] at H50
  have HH := Go.Lib.hid H50
  have HP := Go.Lib.hid hp
  have HF := Go.Lib.hid hF
  clear H50 hp hF hR hR2 hR3 hR4 hR5 hM hlt hlen hv hF1 hBW h0 h1 h2 h3 hS6 hB6 hF6 hi hz0 hz1 hz2
  go_wp2_with (fail)
  refine HH.out.mono ?_
  rintro e w7 ⟨A, n, c, L', rfl, hB7, hN7, hv7, hl7, hn7, ht7, hK7⟩
  replace hB := hB.kept hK7 (fun h => by omega)
  replace hD := hD.kept hK7 (fun h => by omega)
  have c4 := hD.c4
  have hF7 : Fresh w w7 := HF.out.trans hK7 (fun _ _ h => by omega)
  have hn0 : L'.length = 0 → nv L' = 0 := fun h => by cases L' with
    | nil => rfl
    | cons a L => simp at h
  have HA := Go.Lib.hid (And.intro (hN7.lower (by omega : w.heap.size ≤ W6.heap.size)) (And.intro hv7 (And.intro hl7 (And.intro hn7 (And.intro ht7 (And.intro hF7 hn0))))))
  have hbd : ∀ k, (Value.slice A n c).ownBlock = some k → ib < k ∧ k < w7.heap.size := fun k hk => by have := hN7.block k hk; omega
  have HBD := Go.Lib.hid hbd
  clear hN7 hv7 hl7 hn7 ht7 hF7 hK7 hbd hn0
  cases p with
  | true =>
    have c0 := hB7.c0
    have c1 := hB7.c1
    have d0 := hB.c0
    have d1 := hB.c1
    have f0 := hB.f 0
    have f1 := hB.f 1
    go_wp2_with (fail)
    have hB9 := (hB.set0 false).set1 (.slice A n c)
    have hK9 : Kept w7 ((w7.setCell ⟨d + 1, 0, none⟩ (.bool false)).setCell ⟨d + 1, 1, none⟩ (.slice A n c)) (fun k => k = d + 1) := ((Kept.refl w7 (fun k => k = d + 1)).setCell (p := ⟨d + 1, 0, none⟩) (.inl rfl) _).setCell (p := ⟨d + 1, 1, none⟩) (.inl rfl) _
    generalize (w7.setCell ⟨d + 1, 0, none⟩ (.bool false)).setCell ⟨d + 1, 1, none⟩ (.slice A n c) = W9 at *
    have g0 := hB9.c0
    have g1 := hB9.c1
    exact bodyPost_ret (v := .agg #[.bool false, .slice A n c]) (by simp [results, Tryz.results32, go_sem, g0, g1]) rfl ⟨false, A, n, c, L', rfl, HA.out.1.kept hK9 (fun k hk e => by have := HBD.out k hk; omega), HA.out.2.1, HA.out.2.2.1, HA.out.2.2.2.1, HA.out.2.2.2.2.1, HA.out.2.2.2.2.2.1.trans hK9 (fun k hk e => by omega)⟩
  | false =>
    have hpos : 0 < n := by
      refine Nat.pos_of_ne_zero fun h => HP.out rfl ?_
      rw [← HA.out.2.1]
      exact HA.out.2.2.2.2.2.2 (by rw [HA.out.2.2.1]; exact h)
    have HN := Go.Lib.hid (neg_any ib A n c w7 hB7 hpos)
    go_wp2_with (fail)
    refine HN.out.mono ?_
    rintro e w8 ⟨rfl, hB8, hK8⟩
    replace hB := hB.kept hK8 (fun h => by omega)
    have c0 := hB8.c0
    have c1 := hB8.c1
    have d0 := hB.c0
    have d1 := hB.c1
    have f0 := hB.f 0
    have f1 := hB.f 1
    go_wp2_with (fail)
    have hB9 := (hB.set0 true).set1 (.slice A n c)
    have hK9 : Kept w8 ((w8.setCell ⟨d + 1, 0, none⟩ (.bool true)).setCell ⟨d + 1, 1, none⟩ (.slice A n c)) (fun k => k = d + 1) := ((Kept.refl w8 (fun k => k = d + 1)).setCell (p := ⟨d + 1, 0, none⟩) (.inl rfl) _).setCell (p := ⟨d + 1, 1, none⟩) (.inl rfl) _
    have HK8 := ((hK8.mono (S := fun k => k = ib ∨ k = d + 1) (fun _ _ h => .inl h)).trans hK9 (fun _ _ h => .inr h))
    generalize (w8.setCell ⟨d + 1, 0, none⟩ (.bool true)).setCell ⟨d + 1, 1, none⟩ (.slice A n c) = W9 at *
    have g0 := hB9.c0
    have g1 := hB9.c1
    exact bodyPost_ret (v := .agg #[.bool true, .slice A n c]) (by simp [results, Tryz.results32, go_sem, g0, g1]) rfl ⟨true, A, n, c, L', rfl, HA.out.1.kept HK8 (fun k hk e => by have := HBD.out k hk; omega), HA.out.2.1, HA.out.2.2.1, HA.out.2.2.2.1, HA.out.2.2.2.2.1, HA.out.2.2.2.2.2.1.trans HK8 (fun k hk e => by omega)⟩
end Go.Proofs.YthmopakaikhjlaaGreatDoor
