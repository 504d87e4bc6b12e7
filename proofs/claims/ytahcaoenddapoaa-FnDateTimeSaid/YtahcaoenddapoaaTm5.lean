/- Package time: moments at places. -/
import Derived.Test.YtahcaoenddapoaaTm4
namespace Go.Proofs.Ytahcaoenddapoaa
open Go.RowKit

/-- The place of a moment. -/
def plc (u : Bool) (q : Nat) : Value := if u then .pointer none else .pointer (some ⟨q, 0, none⟩)

set_option maxRecDepth 100000 in
theorem In_any (n E q : Nat) (u : Bool) (r : Option Addr) (hn : n < 1073741824) (w : World) (cq : w.cell? ⟨q, 0, none⟩ = some (.bool u)) : Calls Try.prog 88 #[tv n E (.pointer r), .pointer (some ⟨q, 0, none⟩)] w fun e w' => e = .returned (tv n E (plc u q)) ∧ Fresh w w' := by
  have hT0 := T3.new w (.int .u64 (n : Int)) (.int .i64 (E : Int)) (.pointer r) 100
  have hF0 : Fresh w (w.alloc (.cells #[.int .u64 (n : Int), .int .i64 (E : Int), .pointer r] 100)) := (Kept.refl w _).alloc _
  have hs0 : (w.alloc (.cells #[.int .u64 (n : Int), .int .i64 (E : Int), .pointer r] 100)).heap.size = w.heap.size + 1 := by simp
  have hT1 := T3.new (w.alloc (.cells #[.int .u64 (n : Int), .int .i64 (E : Int), .pointer r] 100)) (.int .u64 0) (.int .i64 0) (.pointer none) 100
  have hF1 : Fresh (w.alloc (.cells #[.int .u64 (n : Int), .int .i64 (E : Int), .pointer r] 100)) ((w.alloc (.cells #[.int .u64 (n : Int), .int .i64 (E : Int), .pointer r] 100)).alloc (.cells #[.int .u64 0, .int .i64 0, .pointer none] 100)) := (Kept.refl _ _).alloc _
  rw [hs0] at hT1
  have hT2 := hT0.fresh hF1
  have hF2 := hF0.fresh hF1
  have u0 := hF2.held cq (fun h => h)
  go_enter Try.func88, Try.ntmps88
  go_wp2_with (fail)
  generalize ((w.alloc (.cells #[.int .u64 (n : Int), .int .i64 (E : Int), .pointer r] 100)).alloc (.cells #[.int .u64 0, .int .i64 0, .pointer none] 100)) = W1 at *
  obtain ⟨a0, a1, a2, a3, a4, a5⟩ := hT2
  clear hF0 hF1 hT0 hs0
  refine (setLoc_any w.heap.size n q u hn _ a0 a2 a5 u0).mono ?_
  rintro e w1 ⟨rfl, rfl⟩
  have hp : (if u then Value.pointer none else .pointer (some ⟨q, 0, none⟩)) = plc u q := rfl
  rw [hp]
  obtain ⟨s, hs⟩ : ∃ s, plc u q = .pointer s := by unfold plc; cases u <;> exact ⟨_, rfl⟩
  rw [hs]
  have HS := Go.Lib.hid hs
  obtain ⟨b0, b1, b2, b3, b4, b5⟩ := (T3.mk a0 a1 a2 a3 a4 a5).set2 (.pointer s)
  have hk : Kept W1 (W1.setCell ⟨w.heap.size, 2, none⟩ (.pointer s)) (fun k => k = w.heap.size) := (Kept.refl W1 (fun k => k = w.heap.size)).setCell (p := ⟨w.heap.size, 2, none⟩) (.inl rfl) _
  have hTc := hT1.kept hk (by omega)
  have hF5 : Fresh w (W1.setCell ⟨w.heap.size, 2, none⟩ (.pointer s)) := fresh_set hF2 (Nat.le_refl _) _
  have HT := Go.Lib.hid (hTc.set (.int .u64 (n : Int)) (.int .i64 (E : Int)) (.pointer s))
  obtain ⟨e0, e1, e2, e3, e4, e5⟩ := hTc
  clear hk hT1 a0 a1 a2 a3 a4 a5 hF2 hp hs
  generalize (W1.setCell ⟨w.heap.size, 2, none⟩ (.pointer s)) = W2 at *
  go_wp2
  obtain ⟨r0, r1, r2, _, _, _⟩ := HT.out
  refine bodyPost_ret (v := tv n E (.pointer s)) (by simp [results, Try.results88, go_sem, r0, r1, r2]) rfl ⟨by rw [HS.out], fresh_set (fresh_set (fresh_set hF5 ?_ _) ?_ _) ?_ _⟩ <;> (show w.heap.size ≤ w.heap.size + 1; omega)

/-- A place of a fixed offset, in block q. -/
structure Loc (w : World) (q : Nat) (off : Int) : Prop where
  c0 : w.cell? ⟨q, 0, none⟩ = some (.bool false)
  c2 : ∃ A c, w.cell? ⟨q, 2, none⟩ = some (.slice A 1 c)
  c5 : w.cell? ⟨q, 5, none⟩ = some (.int .i64 (-9223372036854775808))
  c6 : w.cell? ⟨q, 6, none⟩ = some (.int .i64 9223372036854775807)
  c7 : ∃ z nm, w.cell? ⟨q, 7, none⟩ = some (.pointer (some ⟨z, 0, none⟩)) ∧ w.cell? ⟨z, 0, none⟩ = some (.string nm) ∧ w.cell? ⟨z, 1, none⟩ = some (.int .i64 off) ∧ w.cell? ⟨z, 2, none⟩ = some (.bool false)

theorem Loc.fresh {w w' : World} {q : Nat} {off : Int} (h : Loc w q off) (hk : Fresh w w') : Loc w' q off := by
  obtain ⟨c0, ⟨A, c, c2⟩, c5, c6, z, nm, d0, d1, d2, d3⟩ := h
  exact ⟨hk.held c0 (fun h => h), ⟨A, c, hk.held c2 (fun h => h)⟩, hk.held c5 (fun h => h), hk.held c6 (fun h => h), z, nm, hk.held d0 (fun h => h), hk.held d1 (fun h => h), hk.held d2 (fun h => h), hk.held d3 (fun h => h)⟩

set_option maxRecDepth 100000 in
theorem lookup_utc (s : Int) (w : World) : Calls Try.prog 158 #[.pointer none, .int .i64 s] w fun e w' => (∃ nm x y, e = .returned (.tuple #[.string nm, .int .i64 0, x, y, .bool false])) ∧ Fresh w w' := by
  have u2 : (w.alloc utcObj).cell? ⟨w.heap.size, 2, none⟩ = some (.slice none 0 0) := utc_cell w 2
  have hF : Fresh w (w.alloc utcObj) := (Kept.refl w _).alloc _
  go_enter Try.func158, Try.ntmps158
  go_wp2_with (fail)
  refine (get_any _).mono ?_
  rintro e w1 ⟨rfl, rfl⟩
  generalize (w.alloc utcObj) = W1 at *
  go_wp2
  exact bodyPost_ret (v := .tuple #[.string ⟨#[85, 84, 67]⟩, .int .i64 0, .int .i64 (-9223372036854775808), .int .i64 9223372036854775807, .bool false]) (by simp [results, Try.results158, go_sem]) rfl ⟨⟨_, _, _, rfl⟩, hF⟩

set_option maxRecDepth 100000 in
theorem get_loc (q : Nat) (w : World) : Calls Try.prog 171 #[.pointer (some ⟨q, 0, none⟩)] w fun e w' => e = .returned (.pointer (some ⟨q, 0, none⟩)) ∧ w' = w := by
  go_enter Try.func171, Try.ntmps171
  go_wp2
  go_ret
  simp

set_option maxRecDepth 100000 in
theorem lookup_loc (s off : Int) (q : Nat) (h1 : -9223372036854775808 ≤ s) (h2 : s < 9223372036854775807) (w : World) (hL : Loc w q off) : Calls Try.prog 158 #[.pointer (some ⟨q, 0, none⟩), .int .i64 s] w fun e w' => (∃ nm x y, e = .returned (.tuple #[.string nm, .int .i64 off, x, y, .bool false])) ∧ Fresh w w' := by
  obtain ⟨c0, ⟨A, c, c2⟩, c5, c6, z, nm, d0, d1, d2, d3⟩ := hL
  have hF : Fresh w w := Kept.refl _ _
  go_enter Try.func158, Try.ntmps158
  go_wp2_with (fail)
  refine (get_loc q _).mono ?_
  rintro e w1 ⟨rfl, rfl⟩
  go_wp2
  exact bodyPost_ret (v := .tuple #[.string nm, .int .i64 off, .int .i64 (-9223372036854775808), .int .i64 9223372036854775807, .bool false]) (by simp [results, Try.results158, go_sem]) rfl ⟨⟨_, _, _, rfl⟩, hF⟩

set_option maxRecDepth 100000 in
theorem fixedZone_any (nm : ByteArray) (off : Int) (w : World) : Calls Try.prog 120 #[.string nm, .int .i64 off] w fun e w' => ∃ q, e = .returned (.pointer (some ⟨q, 0, none⟩)) ∧ (∀ w2, Kept w' w2 (fun k => k < w.heap.size) → Loc w2 q off) ∧ Fresh w w' := by
  go_enter Try.func120, Try.ntmps120
  go_wp2
  generalize hA1 : (w.alloc (Obj.cells #[Value.string nm, Value.int IntKind.i64 off, Value.bool false] 227)) = A1
  have g1 : A1.heap[w.heap.size]? = some (Obj.cells #[Value.string nm, Value.int IntKind.i64 off, Value.bool false] 227) := by rw [← hA1]; exact heap_alloc_new _ _
  have s1 : A1.heap.size = w.heap.size + 1 := by rw [← hA1]; simp
  have F1 : Fresh w A1 := by rw [← hA1]; exact (Kept.refl w _).alloc _
  generalize hA2 : (A1.alloc (Obj.cells #[Value.int IntKind.i64 (-9223372036854775808), Value.int IntKind.u8 0, Value.bool false, Value.bool false] 229)) = A2
  have s2 : A2.heap.size = w.heap.size + 1 + 1 := by rw [← hA2]; simp [s1]
  have F2 : Fresh A1 A2 := by rw [← hA2]; exact (Kept.refl A1 _).alloc _
  generalize hA3 : (A2.alloc (Obj.cells #[Value.bool false, Value.string nm, Value.slice (some { block := w.heap.size, off := 0 }) 1 1, Value.slice (some { block := w.heap.size + 1, off := 0 }) 1 1, Value.string { data := #[] }, Value.int IntKind.i64 (-9223372036854775808), Value.int IntKind.i64 9223372036854775807, Value.pointer (some { block := w.heap.size, off := 0 })] 173)) = A3
  have F3 : Fresh A2 A3 := by rw [← hA3]; exact (Kept.refl A2 _).alloc _
  have g3 : A3.heap[w.heap.size + 1 + 1]? = some (Obj.cells #[Value.bool false, Value.string nm, Value.slice (some { block := w.heap.size, off := 0 }) 1 1, Value.slice (some { block := w.heap.size + 1, off := 0 }) 1 1, Value.string { data := #[] }, Value.int IntKind.i64 (-9223372036854775808), Value.int IntKind.i64 9223372036854775807, Value.pointer (some { block := w.heap.size, off := 0 })] 173) := by rw [← s2, ← hA3]; exact heap_alloc_new _ _
  have F4 : Fresh A1 A3 := F2.fresh F3
  have z : ∀ j, j < 3 → A3.cell? ⟨w.heap.size, j, none⟩ = (#[Value.string nm, Value.int IntKind.i64 off, Value.bool false])[j]? := fun j hj => by
    match j, hj with
    | 0, _ => exact F4.held (p := ⟨w.heap.size, 0, none⟩) (cell_of_row _ _ 0 _ _ _ g1) (fun h => h)
    | 1, _ => exact F4.held (p := ⟨w.heap.size, 1, none⟩) (cell_of_row _ _ 1 _ _ _ g1) (fun h => h)
    | 2, _ => exact F4.held (p := ⟨w.heap.size, 2, none⟩) (cell_of_row _ _ 2 _ _ _ g1) (fun h => h)
    | j + 3, h => exact absurd h (by omega)
  clear hA1 hA2 hA3
  go_ret
  have n3 : ¬ (w.heap.size + 1 + 1 < w.heap.size) := by omega
  have n0 : ¬ (w.heap.size < w.heap.size) := by omega
  refine ⟨_, rfl, fun w2 hk => ?_, F1.fresh F4⟩
  have c := fun (j : Nat) {u : Value} (hc : A3.cell? ⟨w.heap.size + 1 + 1, j, none⟩ = some u) => hk.held (p := ⟨w.heap.size + 1 + 1, j, none⟩) hc n3
  have cz := fun (j : Nat) {u : Value} (hc : A3.cell? ⟨w.heap.size, j, none⟩ = some u) => hk.held (p := ⟨w.heap.size, j, none⟩) hc n0
  exact ⟨c 0 (cell_of_row _ _ 0 _ _ _ g3), ⟨_, _, c 2 (cell_of_row _ _ 2 _ _ _ g3)⟩, c 5 (cell_of_row _ _ 5 _ _ _ g3), c 6 (cell_of_row _ _ 6 _ _ _ g3), _, _, c 7 (cell_of_row _ _ 7 _ _ _ g3), cz 0 (z 0 (by decide)), cz 1 (z 1 (by decide)), cz 2 (z 2 (by decide))⟩

set_option maxRecDepth 100000 in
theorem FixedZone_any (nm : ByteArray) (off : Int) (w : World) : Calls Try.prog 89 #[.string nm, .int .i64 off] w fun e w' => ∃ q, e = .returned (.pointer (some ⟨q, 0, none⟩)) ∧ (∀ w2, Kept w' w2 (fun k => k < w.heap.size) → Loc w2 q off) ∧ Fresh w w' := by
  go_enter Try.func89, Try.ntmps89
  go_wp2_with (fail)
  refine (fixedZone_any nm off _).mono ?_
  rintro e w1 ⟨q, rfl, hL, hF⟩
  have HL := Go.Lib.hid hL
  clear hL
  go_wp2
  go_ret
  exact ⟨q, rfl, HL.out, hF⟩

/-- Cells of block b, and nothing else has turned. -/
abbrev TS (W : World) (b : Nat) (x y z : Value) (w' : World) : Prop := w'.cell? ⟨b, 0, none⟩ = some x ∧ w'.cell? ⟨b, 1, none⟩ = some y ∧ w'.cell? ⟨b, 2, none⟩ = some z ∧ Fresh W w'
theorem TS.start {W : World} {b : Nat} {x y z : Value} (h : T3 W b x y z) : TS W b x y z W.drew := ⟨h.c0, h.c1, h.c2, (Kept.refl W _).drew⟩
theorem TS.fresh {W w1 w2 : World} {b : Nat} {x y z : Value} (h : TS W b x y z w1) (hk : Fresh w1 w2) : TS W b x y z w2 :=
  ⟨hk.held h.1 (fun h => h), hk.held h.2.1 (fun h => h), hk.held h.2.2.1 (fun h => h), h.2.2.2.fresh hk⟩
theorem TS.same {W w1 : World} {b : Nat} {x y z : Value} (h : TS W b x y z w1) : TS W b x y z w1 := h

/-- Where a moment is: in UTC, or at a fixed place. -/
def At (w : World) (r : Option Addr) (off : Int) : Prop := (r = none ∧ off = 0) ∨ ∃ q, r = some ⟨q, 0, none⟩ ∧ Loc w q off

theorem At.fresh {w w' : World} {r : Option Addr} {off : Int} (h : At w r off) (hk : Fresh w w') : At w' r off := by
  rcases h with h | ⟨q, h1, h2⟩
  · exact .inl h
  · exact .inr ⟨q, h1, h2.fresh hk⟩

theorem lookup_at (s off : Int) (r : Option Addr) (h1 : -9223372036854775808 ≤ s) (h2 : s < 9223372036854775807) (w : World) (hA : At w r off) : Calls Try.prog 158 #[.pointer r, .int .i64 s] w fun e w' => (∃ nm x y, e = .returned (.tuple #[.string nm, .int .i64 off, x, y, .bool false])) ∧ Fresh w w' := by
  rcases hA with ⟨rfl, rfl⟩ | ⟨q, rfl, hL⟩
  · exact lookup_utc s w
  · exact lookup_loc s off q h1 h2 w hL

theorem unixSec_ts (b n E : Nat) (z : Value) (hn : n < 1073741824) (hE : E ≤ 1000000000000) {W w : World} (h : TS W b (.int .u64 (n : Int)) (.int .i64 (E : Int)) z w) :
    Calls Try.prog 172 #[.pointer (some ⟨b, 0, none⟩)] w fun e w' => e = .returned (.int .i64 ((E : Int) - 62135596800)) ∧ w' = w := unixSec_any b n E hn hE w h.1 h.2.1
theorem lookup_ts (s off : Int) (r : Option Addr) (h1 : -9223372036854775808 ≤ s) (h2 : s < 9223372036854775807) {W w : World} {b : Nat} {x y z : Value} (hA : At W r off) (h : TS W b x y z w) : Calls Try.prog 158 #[.pointer r, .int .i64 s] w fun e w' => (∃ nm x y, e = .returned (.tuple #[.string nm, .int .i64 off, x, y, .bool false])) ∧ Fresh w w' := lookup_at s off r h1 h2 w (hA.fresh h.2.2.2)

end Go.Proofs.Ytahcaoenddapoaa
