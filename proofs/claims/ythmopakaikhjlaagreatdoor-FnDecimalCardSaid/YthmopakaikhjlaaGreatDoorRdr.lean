/- strings.Reader: NewReader, ReadByte, UnreadByte. -/
import Derived.Test.YthmopakaikhjlaaGreatDoorQuiet
import Derived.IntWalk
import Derived.Deep.QuietTactic
import Derived.BigQuiet
import Derived.Deep.Cut
namespace Go.Proofs.YthmopakaikhjlaaGreatDoor
open Go.RowKit

/-- The reader in the block rd stands at i in the text s. -/
structure Rdr (w : World) (rd : Nat) (s : ByteArray) (i : Nat) : Prop where
  c0 : w.cell? ⟨rd, 0, none⟩ = some (.string s)
  c1 : w.cell? ⟨rd, 1, none⟩ = some (.int .i64 (i : Int))
  c2 : ∃ p : Int, w.cell? ⟨rd, 2, none⟩ = some (.int .i64 p)
  f : ∀ j, w.frozen? ⟨rd, j, none⟩ = false

/-- io.EOF, as its variable holds it. -/
def eofV (eb : Addr) : Value := .iface 92 (.pointer (some eb))

section
variable {w w' : World} {rd i : Nat} {s : ByteArray}
theorem Rdr.lt (h : Rdr w rd s i) : rd < w.heap.size := World.block_lt_of_cell? w _ h.c0
theorem Rdr.kept {S : Nat → Prop} (h : Rdr w rd s i) (hk : Kept w w' S) (hS : ¬ S rd) : Rdr w' rd s i := by
  obtain ⟨p, hp⟩ := h.c2
  exact ⟨hk.held h.c0 hS, hk.held h.c1 hS, ⟨p, hk.held hp hS⟩, fun j => (hk.frozen (p := ⟨rd, j, none⟩) h.lt hS).trans (h.f j)⟩
theorem Rdr.fresh (h : Rdr w rd s i) (hk : Fresh w w') : Rdr w' rd s i := h.kept hk (fun h => h)
theorem Rdr.set2 (h : Rdr w rd s i) (p : Int) : Rdr (w.setCell ⟨rd, 2, none⟩ (.int .i64 p)) rd s i := by
  obtain ⟨q, hq⟩ := h.c2
  refine ⟨?_, ?_, ⟨p, World.cell?_setCell_same w _ _ hq⟩, fun j => by rw [World.frozen?_setCell]; exact h.f j⟩
  · rw [World.cell?_setCell_other _ _ _ _ (by intro e; injection e with e1 e2; omega)]; exact h.c0
  · rw [World.cell?_setCell_other _ _ _ _ (by intro e; injection e with e1 e2; omega)]; exact h.c1
theorem Rdr.set1 (h : Rdr w rd s i) (k : Nat) : Rdr (w.setCell ⟨rd, 1, none⟩ (.int .i64 (k : Int))) rd s k := by
  obtain ⟨q, hq⟩ := h.c2
  refine ⟨?_, World.cell?_setCell_same w _ _ h.c1, ⟨q, ?_⟩, fun j => by rw [World.frozen?_setCell]; exact h.f j⟩
  · rw [World.cell?_setCell_other _ _ _ _ (by intro e; injection e with e1 e2; omega)]; exact h.c0
  · rw [World.cell?_setCell_other _ _ _ _ (by intro e; injection e with e1 e2; omega)]; exact hq
end

set_option maxRecDepth 100000 in
theorem newReader_any (s : ByteArray) (w : World) : Calls Tryz.prog 57 #[.string s] w fun e w' => e = .returned (.pointer (some ⟨w.heap.size, 0, none⟩)) ∧ Rdr w' w.heap.size s 0 ∧ Fresh w w' := by
  go_enter Tryz.func57, Tryz.ntmps57
  go_wp2
  go_ret
  have h := heap_alloc_new w (.cells #[.string s, .int .i64 0, .int .i64 (-1)] 113)
  exact ⟨rfl, ⟨cell_of_row _ _ 0 _ _ _ h, cell_of_row _ _ 1 _ _ _ h, ⟨-1, cell_of_row _ _ 2 _ _ _ h⟩, fun j => frozen_of_row _ _ j _ _ h⟩, (Kept.refl w _).alloc _⟩

set_option maxRecDepth 100000 in
set_option maxHeartbeats 1000000 in
theorem readByte_any (rd i : Nat) (s : ByteArray) (w : World) (h : Rdr w rd s i) (hi : i < s.size) (hs : s.size ≤ 1000) :
    Calls Tryz.prog 151 #[.pointer (some ⟨rd, 0, none⟩)] w fun e w' => e = .returned (.tuple #[.int .u8 ((s[i].toNat : Nat) : Int), .nilIface]) ∧ Rdr w' rd s (i + 1) ∧ Kept w w' (fun k => k = rd) := by
  obtain ⟨p, hp⟩ := h.c2
  have f2 := h.f 2
  have H := Go.Lib.hid h
  clear h
  go_enter Tryz.func151, Tryz.ntmps151
  go_upto_region 2 with (fail)
  have h1 := H.out.set2 (-1)
  have hk1 : Kept w (w.setCell ⟨rd, 2, none⟩ (.int .i64 (-1))) (fun k => k = rd) := (Kept.refl w (fun k => k = rd)).setCell (p := ⟨rd, 2, none⟩) (.inl rfl) _
  have HK1 := Go.Lib.hid hk1
  have H1 := Go.Lib.hid h1
  clear h1 hk1 hp f2
  generalize w.setCell ⟨rd, 2, none⟩ (.int .i64 (-1)) = w1 at *
  have c0 := H1.out.c0
  have c1 := H1.out.c1
  have i1 : (i : Int) < (s.size : Int) := by omega
  have i2 : ¬ (s.size : Int) ≤ (i : Int) := by omega
  have i3 : ¬ s.size ≤ i := by omega
  have d1 : decide ((s.size : Int) ≤ (i : Int)) = false := by simp; omega
  have d2 : decide (s.size ≤ i) = false := by simp; omega
  go_quiet (fail)
  have hq1 : Fresh w1 (w1.drewN nq) := (Kept.refl w1 _).drewN nq
  have H2 := Go.Lib.hid (H1.out.fresh hq1)
  have HK2 := Go.Lib.hid (HK1.out.fresh hq1)
  clear hq1 c0 c1
  generalize w1.drewN nq = w2 at *
  go_upto_region 4 with (fail)
  have c0 := H2.out.c0
  have c1 := H2.out.c1
  go_quiet (fail)
  have hq2 : Fresh w2 (w2.drewN nq) := (Kept.refl w2 _).drewN nq
  have H3 := Go.Lib.hid (H2.out.fresh hq2)
  have HK3 := Go.Lib.hid (HK2.out.fresh hq2)
  clear hq2 c0 c1
  generalize w2.drewN nq = w3 at *
  have c1 := H3.out.c1
  have f1 := H3.out.f 1
  have i4 : (i : Int) ≤ 1000 := by omega
  go_wp2_with (fail)
  go_ret2
  have h4 := H3.out.set1 (i + 1)
  exact ⟨rfl, h4, HK3.out.setCell (p := ⟨rd, 1, none⟩) (.inl rfl) (.int .i64 ((i + 1 : Nat) : Int))⟩

set_option maxRecDepth 100000 in
set_option maxHeartbeats 1000000 in
theorem readEof_any (rd i : Nat) (eb : Addr) (s : ByteArray) (w : World) (h : Rdr w rd s i) (hi : s.size ≤ i) (he : w.cell? ⟨2, 0, none⟩ = some (eofV eb)) (h2 : rd ≠ 2) :
    Calls Tryz.prog 151 #[.pointer (some ⟨rd, 0, none⟩)] w fun e w' => e = .returned (.tuple #[.int .u8 0, eofV eb]) ∧ Rdr w' rd s i ∧ Kept w w' (fun k => k = rd) := by
  obtain ⟨p, hp⟩ := h.c2
  have f2 := h.f 2
  have H := Go.Lib.hid h
  have HE := Go.Lib.hid he
  clear h he
  go_enter Tryz.func151, Tryz.ntmps151
  go_upto_region 2 with (fail)
  have h1 := H.out.set2 (-1)
  have hk1 : Kept w (w.setCell ⟨rd, 2, none⟩ (.int .i64 (-1))) (fun k => k = rd) := (Kept.refl w (fun k => k = rd)).setCell (p := ⟨rd, 2, none⟩) (.inl rfl) _
  have e1 := hk1.held HE.out (fun e => h2 e.symm)
  have HE1 := Go.Lib.hid e1
  have HK1 := Go.Lib.hid hk1
  have H1 := Go.Lib.hid h1
  clear h1 hk1 hp f2 e1
  generalize w.setCell ⟨rd, 2, none⟩ (.int .i64 (-1)) = w1 at *
  have c0 := H1.out.c0
  have c1 := H1.out.c1
  have i1 : ¬ (i : Int) < (s.size : Int) := by omega
  have i2 : (s.size : Int) ≤ (i : Int) := by omega
  have d1 : decide ((s.size : Int) ≤ (i : Int)) = true := by simp; omega
  have d2 : decide (s.size ≤ i) = true := by simp; omega
  go_quiet (fail)
  have hq1 : Fresh w1 (w1.drewN nq) := (Kept.refl w1 _).drewN nq
  have H2 := Go.Lib.hid (H1.out.fresh hq1)
  have HK2 := Go.Lib.hid (HK1.out.fresh hq1)
  have e2 := hq1.held HE1.out (fun h => h)
  clear hq1 c0 c1
  generalize w1.drewN nq = w2 at *
  unfold eofV at e2
  go_upto_region 3 with (fail)
  go_quiet (fail)
  have hq2 : Fresh w2 (w2.drewN nq) := (Kept.refl w2 _).drewN nq
  have H3 := Go.Lib.hid (H2.out.fresh hq2)
  have HK3 := Go.Lib.hid (HK2.out.fresh hq2)
  clear hq2 e2
  generalize w2.drewN nq = w3 at *
  go_wp2
  go_ret2
  exact ⟨rfl, H3.out, HK3.out⟩

set_option maxRecDepth 100000 in
set_option maxHeartbeats 1000000 in
theorem unread_any (rd i : Nat) (s : ByteArray) (w : World) (h : Rdr w rd s (i + 1)) (hi : i ≤ 1000) :
    Calls Tryz.prog 152 #[.pointer (some ⟨rd, 0, none⟩)] w fun e w' => e = .returned .nilIface ∧ Rdr w' rd s i ∧ Kept w w' (fun k => k = rd) := by
  obtain ⟨p, hp⟩ := h.c2
  have f2 := h.f 2
  have c1 := h.c1
  have H := Go.Lib.hid h
  have i1 : ¬ ((i : Int) + 1) ≤ 0 := by omega
  have i2 : (i : Int) ≤ 1000 := by omega
  rw [show ((i + 1 : Nat) : Int) = (i : Int) + 1 from by omega] at c1
  clear h
  go_enter Tryz.func152, Tryz.ntmps152
  go_upto_region 4 with (fail)
  have h1 := H.out.set2 (-1)
  have hk1 : Kept w (w.setCell ⟨rd, 2, none⟩ (.int .i64 (-1))) (fun k => k = rd) := (Kept.refl w (fun k => k = rd)).setCell (p := ⟨rd, 2, none⟩) (.inl rfl) _
  have HK1 := Go.Lib.hid hk1
  have H1 := Go.Lib.hid h1
  clear h1 hk1 hp f2 c1
  generalize w.setCell ⟨rd, 2, none⟩ (.int .i64 (-1)) = w1 at *
  have c1 := H1.out.c1
  have f1 := H1.out.f 1
  rw [show ((i + 1 : Nat) : Int) = (i : Int) + 1 from by omega] at c1
  go_wp2
  go_ret
  exact ⟨rfl, H1.out.set1 i, HK1.out.setCell (p := ⟨rd, 1, none⟩) (.inl rfl) (.int .i64 (i : Int))⟩
end Go.Proofs.YthmopakaikhjlaaGreatDoor
