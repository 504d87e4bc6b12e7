/- Package time: moments are made. -/
import Derived.Test.YtahcaoenddapoaaTm3
namespace Go.Proofs.Ytahcaoenddapoaa
open Go.RowKit

set_option maxRecDepth 100000 in
theorem strip_any (b n : Nat) (hn : n < 1073741824) (w : World) (c0 : w.cell? ⟨b, 0, none⟩ = some (.int .u64 (n : Int))) :
    Calls Try.prog 155 #[.pointer (some ⟨b, 0, none⟩)] w fun e w' => e = .returned (.tuple #[]) ∧ w' = w := by
  have h := and_top n hn
  go_enter Try.func155, Try.ntmps155
  go_wp2
  go_end0
  simp

set_option maxRecDepth 100000 in
theorem setLoc_any (b n q : Nat) (u : Bool) (hn : n < 1073741824) (w : World) {o : Value} (c0 : w.cell? ⟨b, 0, none⟩ = some (.int .u64 (n : Int))) (c2 : w.cell? ⟨b, 2, none⟩ = some o) (f2 : w.frozen? ⟨b, 2, none⟩ = false) (cq : w.cell? ⟨q, 0, none⟩ = some (.bool u)) :
    Calls Try.prog 119 #[.pointer (some ⟨b, 0, none⟩), .pointer (some ⟨q, 0, none⟩)] w fun e w' => e = .returned (.tuple #[]) ∧ w' = w.setCell ⟨b, 2, none⟩ (if u then .pointer none else .pointer (some ⟨q, 0, none⟩)) := by
  cases u with
  | true =>
    go_enter Try.func119, Try.ntmps119
    go_wp2_with (fail)
    refine (strip_any b n hn _ c0).mono ?_
    rintro e w1 ⟨rfl, rfl⟩
    go_wp2
    go_end0
    simp
  | false =>
    go_enter Try.func119, Try.ntmps119
    go_wp2_with (fail)
    refine (strip_any b n hn _ c0).mono ?_
    rintro e w1 ⟨rfl, rfl⟩
    go_wp2
    go_end0
    simp

set_option maxRecDepth 100000 in
theorem unixTime_any (n : Nat) (u : Int) (E : Nat) (hn : n < 1000000000) (hu : u + 62135596800 = (E : Int)) (hE : E ≤ 1000000000000) (w : World) :
    Calls Try.prog 118 #[.int .i64 u, .int .i32 (n : Int)] w fun e w' => e = .returned (tv n E (.pointer none)) ∧ Fresh w w' := by
  have hu1 : u ≤ 1000000000000 := by omega
  have hu0 : -62135596800 ≤ u := by omega
  have HU := Go.Lib.hid hu
  clear hu
  go_enter Try.func118, Try.ntmps118
  go_wp2
  refine bodyPost_ret (v := tv n E (.pointer none)) (by simp [results, Try.results118, go_sem, HU.out]) rfl ⟨rfl, (Kept.refl w _).alloc _⟩

/-- Three cells in block b. -/
structure T3 (w : World) (b : Nat) (x y z : Value) : Prop where
  c0 : w.cell? ⟨b, 0, none⟩ = some x
  c1 : w.cell? ⟨b, 1, none⟩ = some y
  c2 : w.cell? ⟨b, 2, none⟩ = some z
  f0 : w.frozen? ⟨b, 0, none⟩ = false
  f1 : w.frozen? ⟨b, 1, none⟩ = false
  f2 : w.frozen? ⟨b, 2, none⟩ = false

theorem T3.new (w : World) (x y z : Value) (T : TypeId) : T3 (w.alloc (.cells #[x, y, z] T)) w.heap.size x y z := by
  have hg : (w.alloc (.cells #[x, y, z] T)).heap[w.heap.size]? = some (.cells #[x, y, z] T) := heap_alloc_new _ _
  have hf : ∀ j, (w.alloc (.cells #[x, y, z] T)).frozen? ⟨w.heap.size, j, none⟩ = false := fun j => by simp only [World.frozen?, hg]; rfl
  exact ⟨cell_of_row _ _ 0 _ _ _ hg, cell_of_row _ _ 1 _ _ _ hg, cell_of_row _ _ 2 _ _ _ hg, hf 0, hf 1, hf 2⟩

theorem T3.fresh {w w' : World} {b : Nat} {x y z : Value} (h : T3 w b x y z) (hk : Fresh w w') : T3 w' b x y z :=
  have hb : b < w.heap.size := World.block_lt_of_cell? w ⟨b, 0, none⟩ h.c0
  ⟨hk.held (p := ⟨b, 0, none⟩) h.c0 (fun h => h), hk.held (p := ⟨b, 1, none⟩) h.c1 (fun h => h), hk.held (p := ⟨b, 2, none⟩) h.c2 (fun h => h),
    (hk.frozen (p := ⟨b, 0, none⟩) hb (fun h => h)).trans h.f0, (hk.frozen (p := ⟨b, 1, none⟩) hb (fun h => h)).trans h.f1, (hk.frozen (p := ⟨b, 2, none⟩) hb (fun h => h)).trans h.f2⟩

theorem set_ne (w : World) (b i j : Nat) (u : Value) (h : i ≠ j) : (w.setCell ⟨b, i, none⟩ u).cell? ⟨b, j, none⟩ = w.cell? ⟨b, j, none⟩ := World.cell?_setCell_other w _ _ _ (by intro e; injection e with e1 e2; exact h e2)

theorem T3.set2 {w : World} {b : Nat} {x y z : Value} (h : T3 w b x y z) (z' : Value) : T3 (w.setCell ⟨b, 2, none⟩ z') b x y z' :=
  ⟨by rw [set_ne _ _ _ _ _ (by decide)]; exact h.c0, by rw [set_ne _ _ _ _ _ (by decide)]; exact h.c1, World.cell?_setCell_same w _ _ h.c2, by rw [World.frozen?_setCell]; exact h.f0, by rw [World.frozen?_setCell]; exact h.f1, by rw [World.frozen?_setCell]; exact h.f2⟩
theorem T3.set1 {w : World} {b : Nat} {x y z : Value} (h : T3 w b x y z) (y' : Value) : T3 (w.setCell ⟨b, 1, none⟩ y') b x y' z :=
  ⟨by rw [set_ne _ _ _ _ _ (by decide)]; exact h.c0, World.cell?_setCell_same w _ _ h.c1, by rw [set_ne _ _ _ _ _ (by decide)]; exact h.c2, by rw [World.frozen?_setCell]; exact h.f0, by rw [World.frozen?_setCell]; exact h.f1, by rw [World.frozen?_setCell]; exact h.f2⟩
theorem T3.set0 {w : World} {b : Nat} {x y z : Value} (h : T3 w b x y z) (x' : Value) : T3 (w.setCell ⟨b, 0, none⟩ x') b x' y z :=
  ⟨World.cell?_setCell_same w _ _ h.c0, by rw [set_ne _ _ _ _ _ (by decide)]; exact h.c1, by rw [set_ne _ _ _ _ _ (by decide)]; exact h.c2, by rw [World.frozen?_setCell]; exact h.f0, by rw [World.frozen?_setCell]; exact h.f1, by rw [World.frozen?_setCell]; exact h.f2⟩
theorem T3.set {w : World} {b : Nat} {x y z : Value} (h : T3 w b x y z) (x' y' z' : Value) : T3 (((w.setCell ⟨b, 0, none⟩ x').setCell ⟨b, 1, none⟩ y').setCell ⟨b, 2, none⟩ z') b x' y' z' := ((h.set0 x').set1 y').set2 z'

theorem T3.kept {w w' : World} {S : Nat → Prop} {b : Nat} {x y z : Value} (h : T3 w b x y z) (hk : Kept w w' S) (hS : ¬ S b) : T3 w' b x y z :=
  have hb : b < w.heap.size := World.block_lt_of_cell? w ⟨b, 0, none⟩ h.c0
  ⟨hk.held (p := ⟨b, 0, none⟩) h.c0 hS, hk.held (p := ⟨b, 1, none⟩) h.c1 hS, hk.held (p := ⟨b, 2, none⟩) h.c2 hS,
    (hk.frozen (p := ⟨b, 0, none⟩) hb hS).trans h.f0, (hk.frozen (p := ⟨b, 1, none⟩) hb hS).trans h.f1, (hk.frozen (p := ⟨b, 2, none⟩) hb hS).trans h.f2⟩

theorem fresh_set {w w' : World} (h : Fresh w w') {p : Addr} (hp : w.heap.size ≤ p.block) (v : Value) : Fresh w (w'.setCell p v) :=
  (h.mono (S := fun k => k = p.block) (fun _ _ h => h.elim)).setCell (p := p) (.inl rfl) v |>.mono (fun k hk e => by omega)

set_option maxRecDepth 100000 in
theorem Unix_any (n : Nat) (u : Int) (E : Nat) (hn : n < 1000000000) (hu : u + 62135596800 = (E : Int)) (hE : E ≤ 1000000000000) (w : World) :
    Calls Try.prog 86 #[.int .i64 u, .int .i64 (n : Int)] w fun e w' => e = .returned (tv n E (.pointer none)) ∧ Fresh w w' := by
  have hn1 : (n : Int) < 1000000000 := by omega
  have hu1 : u ≤ 1000000000000 := by omega
  have hu0 : -62135596800 ≤ u := by omega
  have HU := Go.Lib.hid hu
  clear hu
  have hF0 : Fresh w (w.alloc (.cells #[.int .u64 0, .int .i64 0, .pointer none] 100)) := (Kept.refl w _).alloc _
  have hn0 : (0 : Int) ≤ (n : Int) := Int.natCast_nonneg _
  have HNN := Go.Lib.hid hn
  clear hn
  generalize hN : (n : Int) = N at *
  have HN := Go.Lib.hid hN
  clear hN
  go_enter Try.func86, Try.ntmps86
  go_wp2_with (fail)
  rw [← HN.out]
  refine (unixTime_any n u E HNN.out HU.out hE _).mono ?_
  rintro e w1 ⟨rfl, hF1⟩
  have hT := (T3.new w (.int .u64 0) (.int .i64 0) (.pointer none) 100).fresh hF1
  obtain ⟨c0, c1, c2, f0, f1, f2⟩ := hT
  have hT := (T3.mk c0 c1 c2 f0 f1 f2).set (.int .u64 (n : Int)) (.int .i64 (E : Int)) (.pointer none)
  have hF2 := hF0.fresh hF1
  have HT := Go.Lib.hid hT
  clear hT
  go_wp2
  obtain ⟨r0, r1, r2, _, _, _⟩ := HT.out
  refine bodyPost_ret (v := tv n E (.pointer none)) (by simp [results, Try.results86, go_sem, r0, r1, r2]) rfl ⟨rfl, fresh_set (fresh_set (fresh_set hF2 ?_ _) ?_ _) ?_ _⟩ <;> exact Nat.le_refl _

set_option maxRecDepth 100000 in
theorem UTC_any (n E : Nat) (hn : n < 1073741824) (w : World) : Calls Try.prog 87 #[tv n E (.pointer none)] w fun e w' => e = .returned (tv n E (.pointer none)) ∧ Fresh w w' := by
  have hT0 := T3.new w (.int .u64 (n : Int)) (.int .i64 (E : Int)) (.pointer none) 100
  have hF0 : Fresh w (w.alloc (.cells #[.int .u64 (n : Int), .int .i64 (E : Int), .pointer none] 100)) := (Kept.refl w _).alloc _
  have hs0 : (w.alloc (.cells #[.int .u64 (n : Int), .int .i64 (E : Int), .pointer none] 100)).heap.size = w.heap.size + 1 := by simp
  have hT1 := T3.new (w.alloc (.cells #[.int .u64 (n : Int), .int .i64 (E : Int), .pointer none] 100)) (.int .u64 0) (.int .i64 0) (.pointer none) 100
  have hF1 : Fresh (w.alloc (.cells #[.int .u64 (n : Int), .int .i64 (E : Int), .pointer none] 100)) ((w.alloc (.cells #[.int .u64 (n : Int), .int .i64 (E : Int), .pointer none] 100)).alloc (.cells #[.int .u64 0, .int .i64 0, .pointer none] 100)) := (Kept.refl _ _).alloc _
  rw [hs0] at hT1
  have hT2 := hT0.fresh hF1
  have hF2 := hF0.fresh hF1
  go_enter Try.func87, Try.ntmps87
  go_wp2_with (fail)
  refine (utc_any _).mono ?_
  rintro e w1 ⟨rfl, rfl⟩
  generalize ((w.alloc (.cells #[.int .u64 (n : Int), .int .i64 (E : Int), .pointer none] 100)).alloc (.cells #[.int .u64 0, .int .i64 0, .pointer none] 100)) = W at *
  have hF3 : Fresh W (W.alloc utcObj) := (Kept.refl W _).alloc _
  have u0 : (W.alloc utcObj).cell? ⟨W.heap.size, 0, none⟩ = some (.bool true) := utc_cell W 0
  obtain ⟨a0, a1, a2, a3, a4, a5⟩ := hT2.fresh hF3
  have hTb := hT1.fresh hF3
  have hF4 := hF2.fresh hF3
  clear hF0 hF1 hF2 hF3 hT0 hT1 hT2 hs0
  generalize (W.alloc utcObj) = W1 at *
  go_wp2_with (fail)
  refine (setLoc_any w.heap.size n W.heap.size true hn _ a0 a2 a5 u0).mono ?_
  rintro e w1 ⟨rfl, rfl⟩
  simp only [if_true]
  obtain ⟨b0, b1, b2, b3, b4, b5⟩ := (T3.mk a0 a1 a2 a3 a4 a5).set2 (.pointer none)
  have hk : Kept W1 (W1.setCell ⟨w.heap.size, 2, none⟩ (.pointer none)) (fun k => k = w.heap.size) := (Kept.refl W1 (fun k => k = w.heap.size)).setCell (p := ⟨w.heap.size, 2, none⟩) (.inl rfl) _
  have hTc := hTb.kept hk (by omega)
  have hF5 : Fresh w (W1.setCell ⟨w.heap.size, 2, none⟩ (.pointer none)) := fresh_set hF4 (Nat.le_refl _) _
  have HT := Go.Lib.hid (hTc.set (.int .u64 (n : Int)) (.int .i64 (E : Int)) (.pointer none))
  obtain ⟨e0, e1, e2, e3, e4, e5⟩ := hTc
  clear hk hTb a0 a1 a2 a3 a4 a5 hF4
  generalize (W1.setCell ⟨w.heap.size, 2, none⟩ (.pointer none)) = W2 at *
  go_wp2
  obtain ⟨r0, r1, r2, _, _, _⟩ := HT.out
  refine bodyPost_ret (v := tv n E (.pointer none)) (by simp [results, Try.results87, go_sem, r0, r1, r2]) rfl ⟨rfl, fresh_set (fresh_set (fresh_set hF5 ?_ _) ?_ _) ?_ _⟩ <;> (show w.heap.size ≤ w.heap.size + 1; omega)
end Go.Proofs.Ytahcaoenddapoaa
