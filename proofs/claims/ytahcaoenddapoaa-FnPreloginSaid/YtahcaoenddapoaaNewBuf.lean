/- newTdsBuffer, zzBuffer. -/
import Derived.Test.YtahcaoenddapoaaSend
namespace Go.Proofs.Ytahcaoenddapoaa
open Go.RowKit

/-- A buffer that is new: its cells. -/
def newCells (hb bb ps C : Nat) : Array Value := #[.iface 144 (.pointer (some ⟨bb, 0, none⟩)), .int .i64 ps, .slice (some ⟨hb, 0, none⟩) 32768 C, .int .i64 0, .int .u8 0, .int .u8 0, .slice (some ⟨hb, 32768, none⟩) (C - 32768) (C - 32768), .int .i64 8, .int .i64 0, .bool false, .int .u8 0, .nilFunc]

theorem RowK.blk {base g n : Nat} {w : World} {l : List Nat} (h : Row base w (.slice (some ⟨g, 0, none⟩) n n) l) : Blk w g l := by
  have hn := h.len
  subst hn
  obtain ⟨_, h | ⟨g', cap, cur, e, hb, hg, hnc, hcm, hcs, htake⟩⟩ := h
  · exact absurd h.1 (by intro e; injection e with e1; cases e1)
  · injection e with e1 e2 e3
    injection e1 with e1
    injection e1 with e1
    subst e1
    subst e3
    unfold Blk
    rw [hg]
    have : cur = (u8s l).toArray := by
      apply Array.ext'
      have hl : cur.toList.length = l.length := by rw [Array.length_toList, hcs, Nat.mul_one]
      have ht : cur.toList.take l.length = u8s l := by simpa using htake
      rw [List.take_of_length_le (by omega)] at ht
      simpa using ht
    rw [this]

set_option maxRecDepth 100000 in
set_option maxHeartbeats 1000000 in
theorem newBuf_any (ps bb : Nat) (hps : ps < 65536) (w : World) :
    Calls Try.prog 103 #[.int .u16 ps, .iface 144 (.pointer (some ⟨bb, 0, none⟩))] w fun e w' => ∃ g hb C, 65536 ≤ C ∧ C ≤ 65536 ∧ e = .returned (.pointer (some ⟨g, 0, none⟩)) ∧ w'.heap[g]? = some (.cells (newCells hb bb ps C) 150) ∧ Blk w' hb (List.replicate C 0) ∧ g ≠ hb ∧ w.heap.size ≤ g ∧ w.heap.size ≤ hb ∧ Fresh w w' := by
  obtain ⟨i0, hi, hz0, hz1, hz2⟩ := info_parts info5
  go_enter Try.func103, Try.ntmps103
  go_wp2_with (at_make; refine wpList_make_full _ rfl _ _ 24 rfl w.heap.size 5 i0 (.int .u8 0) 1 Try.underlying24 hi hz0 hz1 .i64 .i64 _ _ 65536 rfl rfl (by omega) (by omega) (by rw [hz2]; omega) (by unfold maxLen; omega) (Nat.le_refl _) ?_; intro w1 hown hgr)
  have hF1 : Fresh w w1 := (Kept.of_grown hgr).mono (fun _ _ h => by cases h)
  obtain ⟨C, hC1, hC2, hC⟩ : ∃ C : Nat, 65536 ≤ C ∧ C ≤ 65536 ∧ C = 65536 := ⟨65536, by omega, by omega, rfl⟩
  rw [← hC] at hown
  rw [← hC]
  have hr1 : Row w.heap.size w1 (.slice (some ⟨w.heap.size, 0, none⟩) C C) (List.replicate C 0) :=
    RowK.of_own hown (by rw [Nat.mul_one]; show (madeCells #[.int .u8 0] C).toList = _; rw [toList_madeCells_one]; simp [ints]) rfl
  have hB := hr1.blk
  have HB := Go.Lib.hid hB
  have hs := hB.lt
  clear hC hown hgr hr1 hB
  have i1 : (32768 : Int) ≤ ((C : Nat) : Int) := by omega
  have i2 : ¬ C = 32768 := by omega
  have i3 : ¬ C = 0 := by omega
  go_region
  all_goals
    go_wp2
    go_ret
    exact ⟨w1.heap.size, w.heap.size, C, hC1, hC2, rfl, heap_alloc_new _ _, HB.out.fresh ((Kept.refl w1 _).alloc _).drew, by omega, hF1.size, Nat.le_refl _, (hF1.alloc _).drew⟩

/-- A buffer over bytes, as it is made. -/
structure New (w : World) (base g hb bb ps C : Nat) (v : Value) (m : List Nat) : Prop where
  cells : w.heap[g]? = some (.cells (newCells hb bb ps C) 150)
  blk : Blk w hb (List.replicate C 0)
  wr : Wr w base bb v m
  n1 : g ≠ hb
  n2 : g ≠ bb
  n3 : hb ≠ bb
  n4 : v.ownBlock ≠ some g
  n5 : v.ownBlock ≠ some hb
  b1 : base ≤ g
  b2 : base ≤ hb
  b3 : base ≤ bb
  c1 : 65536 ≤ C
  c2 : C ≤ 65536
  n6 : ∀ k, v.ownBlock = some k → k < bb

theorem New.raw {w : World} {base g hb bb ps C : Nat} {v : Value} {m : List Nat} (h : New w base g hb bb ps C v m) : Raw w base g hb bb ps 32768 C 0 0 0 v m (List.replicate C 0) :=
  have c := fun j => cell_of_row w g j (newCells hb bb ps C) 150 (0, 0) h.cells
  ⟨c 0, c 1, c 2, c 3, c 4, c 5, c 11, fun j => by simp only [World.frozen?, h.cells]; by_cases hj : (0, 0).1 ≤ j <;> simp, h.blk, by simp, h.wr, h.n1, h.n2, h.n3, h.n4, h.n5, h.b1, h.b2, h.b3⟩

set_option maxRecDepth 100000 in
set_option maxHeartbeats 1000000 in
theorem zzBuffer_any (ps : Nat) (hps : ps < 65536) (x : Value) (m : List Nat) (hm : m.length ≤ 140737488355328) (w : World) (hx : Bts w x m) :
    Calls Try.prog 76 #[.int .i64 ps, x] w fun e w' => ∃ g hb bb C v, e = .returned (.pointer (some ⟨g, 0, none⟩)) ∧ New w' w.heap.size g hb bb ps C v m ∧ Fresh w w' := by
  obtain ⟨i0, hi, hz0, hz1, hz2⟩ := info_parts info5
  obtain ⟨A, c, rfl, hlc⟩ := hx.slice
  go_enter Try.func76, Try.ntmps76
  go_wp2_with (at_builtin; refine wpList_append_bts _ rfl (.const (.slice none 0 0)) (.tmp 7) 24 24 rfl w.heap.size i0 Try.underlying24 Try.underlying24 hi hz0 hz1 hz2 (.slice none 0 0) (.slice A m.length c) rfl rfl [] m (RowK.nil _ _) hx (by simpa using hm) (Nat.le_refl _) ?_; intro A' c' w1 hr1 hg1 hm1)
  have hr : Row w.heap.size w1 (.slice A' m.length c') m := by simpa using hr1
  have hF1 : Fresh w w1 := (Kept.of_grown hg1).mono (fun _ _ h => by cases h)
  have hbk := hr.block
  have HR := Go.Lib.hid hr
  have HBK := Go.Lib.hid hbk
  clear hr hr1 hg1 hm1 hbk
  refine (newBuf_any ps w1.heap.size hps _).mono ?_
  rintro e w3 ⟨g, hb, C, hC1, hC2, rfl, hcells, hB, hgh, hg1', hh1, hF3⟩
  have hal : Fresh w1 (w1.alloc (.cells #[.slice A' m.length c'] 146)) := (Kept.refl w1 _).alloc _
  have hgb : (w1.alloc (.cells #[.slice A' m.length c'] 146)).heap[w1.heap.size]? = some (.cells #[.slice A' m.length c'] 146) := heap_alloc_new _ _
  have hW : Wr (w1.alloc (.cells #[.slice A' m.length c'] 146)) w.heap.size w1.heap.size (.slice A' m.length c') m := by
    refine ⟨cell_of_row _ _ 0 _ _ _ hgb, ?_, HR.out.fresh hal, fun e => by have := (HBK.out _ e).2; omega⟩
    simp only [World.frozen?, hgb]
    rfl
  have hsz : (w1.alloc (.cells #[.slice A' m.length c'] 146)).heap.size = w1.heap.size + 1 := by simp
  have hs1 := hF1.size
  have HN : New w3 w.heap.size g hb w1.heap.size ps C (.slice A' m.length c') m :=
    ⟨hcells, hB, hW.fresh hF3, hgh, by omega, by omega, fun e => by have := (HBK.out _ e).2; omega, fun e => by have := (HBK.out _ e).2; omega, by omega, by omega, hs1, hC1, hC2, fun k e => (HBK.out k e).2⟩
  have HNN := Go.Lib.hid HN
  clear HN hcells hB hW
  go_wp2
  go_ret
  exact ⟨g, hb, w1.heap.size, C, _, rfl, HNN.out, (hF1.fresh hal).fresh hF3⟩
end Go.Proofs.Ytahcaoenddapoaa
