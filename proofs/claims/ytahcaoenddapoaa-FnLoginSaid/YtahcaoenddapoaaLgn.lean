/- The login in the package's own form, as cells; the count of a text's runes, by a number. -/
import Derived.Test.YtahcaoenddapoaaHdr
import Derived.Test.YtahcaoenddapoaaProper
import Derived.Test.YtahcaoenddapoaaStr
import Derived.Test.YtahcaoenddapoaaStp2
namespace Go.Proofs.Ytahcaoenddapoaa
open Go.RowKit

/-- n marks, by a number's bits. -/
def lst (n N : Nat) : Array Bool := ((List.range n).map fun i => N.testBit i).toArray

/-- The empty text. -/
def em : ByteArray := ⟨#[]⟩

/-- The login in block lb, as the package has it. -/
structure Lgn (lb : Nat) (x : Lg) (w : World) : Prop where
  c0 : w.cell? ⟨lb, 0, none⟩ = some (.int .u32 x.t0)
  c1 : w.cell? ⟨lb, 1, none⟩ = some (.int .u32 x.t1)
  c2 : w.cell? ⟨lb, 2, none⟩ = some (.int .u32 x.t2)
  c3 : w.cell? ⟨lb, 3, none⟩ = some (.int .u32 x.t3)
  c4 : w.cell? ⟨lb, 4, none⟩ = some (.int .u32 x.t4)
  c5 : w.cell? ⟨lb, 5, none⟩ = some (.int .u8 x.f1)
  c6 : w.cell? ⟨lb, 6, none⟩ = some (.int .u8 x.f2)
  c7 : w.cell? ⟨lb, 7, none⟩ = some (.int .u8 x.f3)
  c8 : w.cell? ⟨lb, 8, none⟩ = some (.int .u8 x.f4)
  c9 : w.cell? ⟨lb, 9, none⟩ = some (.int .i32 x.off)
  c10 : w.cell? ⟨lb, 10, none⟩ = some (.int .u32 x.lcid)
  c11 : w.cell? ⟨lb, 11, none⟩ = some (.string x.s0)
  c12 : w.cell? ⟨lb, 12, none⟩ = some (.string x.s1)
  c13 : w.cell? ⟨lb, 13, none⟩ = some (.string x.s2)
  c14 : w.cell? ⟨lb, 14, none⟩ = some (.string x.s3)
  c15 : w.cell? ⟨lb, 15, none⟩ = some (.string x.s4)
  c16 : w.cell? ⟨lb, 16, none⟩ = some (.string x.s5)
  c17 : w.cell? ⟨lb, 17, none⟩ = some (.string x.s6)
  c18 : w.cell? ⟨lb, 18, none⟩ = some (.string x.s7)
  d0 : w.cell? ⟨lb, 19, none⟩ = some (.int .u8 0)
  d1 : w.cell? ⟨lb, 20, none⟩ = some (.int .u8 0)
  d2 : w.cell? ⟨lb, 21, none⟩ = some (.int .u8 0)
  d3 : w.cell? ⟨lb, 22, none⟩ = some (.int .u8 0)
  d4 : w.cell? ⟨lb, 23, none⟩ = some (.int .u8 0)
  d5 : w.cell? ⟨lb, 24, none⟩ = some (.int .u8 0)
  c25 : w.cell? ⟨lb, 25, none⟩ = some (.slice none 0 0)
  c26 : w.cell? ⟨lb, 26, none⟩ = some (.string em)
  c27 : w.cell? ⟨lb, 27, none⟩ = some (.string em)

theorem Lgn.kept {w w' : World} {lb : Nat} {x : Lg} {S : Nat → Prop} (h : Lgn lb x w) (hk : Kept w w' S) (hS : ¬ S lb) : Lgn lb x w' :=
  have c := fun (j : Nat) {u : Value} (hc : w.cell? ⟨lb, j, none⟩ = some u) => hk.held (p := ⟨lb, j, none⟩) hc hS
  ⟨c 0 h.c0, c 1 h.c1, c 2 h.c2, c 3 h.c3, c 4 h.c4, c 5 h.c5, c 6 h.c6, c 7 h.c7, c 8 h.c8, c 9 h.c9, c 10 h.c10, c 11 h.c11, c 12 h.c12, c 13 h.c13, c 14 h.c14, c 15 h.c15, c 16 h.c16, c 17 h.c17, c 18 h.c18, c 19 h.d0, c 20 h.d1, c 21 h.d2, c 22 h.d3, c 23 h.d4, c 24 h.d5, c 25 h.c25, c 26 h.c26, c 27 h.c27⟩
theorem Lgn.fresh {w w' : World} {lb : Nat} {x : Lg} (h : Lgn lb x w) (hk : Fresh w w') : Lgn lb x w' := h.kept hk (fun h => h)

theorem count_at (s : ByteArray) (m : Nat) (hm : Go.RowKit.Hid ((runesOf s).length = m)) (hs : s.size ≤ 140737488355328) (w : World) :
    Calls Try.prog 106 #[.string s] w fun e w' => e = .returned (.int .i64 (m : Int)) ∧ Fresh w w' :=
  (count_any s hs w).mono fun e w' ⟨he, pos, hw⟩ => ⟨by rw [he, hm.out], by rw [hw]; exact (Kept.refl _ _).alloc _⟩
theorem count_em (w : World) : Calls Try.prog 106 #[.string em] w fun e w' => e = .returned (.int .i64 0) ∧ Fresh w w' :=
  (count_any em (by decide) w).mono fun e w' ⟨he, pos, hw⟩ => ⟨by rw [he]; rfl, by rw [hw]; exact (Kept.refl _ _).alloc _⟩

/-- What the header's 43 cells hold at first: the offsets and the length are nought. -/
def hdr0 (x : Lg) (m0 m1 m2 m3 m4 m5 m6 m7 : Nat) : List Value :=
  [.int .u32 0, .int .u32 x.t0, .int .u32 x.t1, .int .u32 x.t2, .int .u32 x.t3, .int .u32 x.t4, .int .u8 x.f1, .int .u8 x.f2, .int .u8 x.f3, .int .u8 x.f4, .int .i32 x.off, .int .u32 x.lcid,
   .int .u16 0, .int .u16 m0, .int .u16 0, .int .u16 m1, .int .u16 0, .int .u16 m2, .int .u16 0, .int .u16 m3, .int .u16 0, .int .u16 m4, .int .u16 0, .int .u16 0, .int .u16 0, .int .u16 m5, .int .u16 0, .int .u16 m6, .int .u16 0, .int .u16 m7,
   .int .u8 0, .int .u8 0, .int .u8 0, .int .u8 0, .int .u8 0, .int .u8 0, .int .u16 0, .int .u16 0, .int .u16 0, .int .u16 0, .int .u16 0, .int .u16 0, .int .u32 0]

/-- Behind the literal: the header lies in a block hh that is new. -/
def Made (w0 : World) (x : Lg) (m0 m1 m2 m3 m4 m5 m6 m7 : Nat) (h : Value) (wc : World) : Prop :=
  ∃ hh, h = .pointer (some ⟨hh, 0, none⟩) ∧ w0.heap.size ≤ hh ∧ hh < wc.heap.size ∧ wc.rangeAt hh 0 (hdr0 x m0 m1 m2 m3 m4 m5 m6 m7) ∧ wc.there hh 0 43 ∧ Fresh w0 wc
/-- A new block of 43 cells. -/
theorem made_new {w0 w : World} (h : Fresh w0 w) (cs : Array Value) (hn : cs.size = 43) (T : TypeId) : (w.alloc (.cells cs T)).there w.heap.size 0 43 ∧ w0.heap.size ≤ w.heap.size ∧ w.heap.size < (w.alloc (.cells cs T)).heap.size ∧ Fresh w0 (w.alloc (.cells cs T)) :=
  ⟨by rw [← hn]; exact there_new w cs T, h.size, by simp, h.alloc _⟩
end Go.Proofs.Ytahcaoenddapoaa
