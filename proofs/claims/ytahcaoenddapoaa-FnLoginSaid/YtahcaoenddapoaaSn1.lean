/- sendLogin: the header's cells and numbers; the buffer in the midst of a login; a text is written. (Printed by gensn.py.) -/
import Derived.Test.YtahcaoenddapoaaSn0
namespace Go.Proofs.Ytahcaoenddapoaa
open Go.RowKit

/-- The numbers of a login fit their types. -/
def Lg.wf (x : Lg) : Prop := (0 ≤ x.t0 ∧ x.t0 < 4294967296) ∧ (0 ≤ x.t1 ∧ x.t1 < 4294967296) ∧ (0 ≤ x.t2 ∧ x.t2 < 4294967296) ∧ (0 ≤ x.t3 ∧ x.t3 < 4294967296) ∧ (0 ≤ x.t4 ∧ x.t4 < 4294967296) ∧ (0 ≤ x.lcid ∧ x.lcid < 4294967296)

/-- The header's cells behind the stores. -/
def hdr1 (x : Lg) (m0 m1 m2 m3 m4 m5 m6 m7 n1 n2 n3 n4 n5 n6 n7 n8 : Nat) : List Value := [.int .u32 (94 + ↑n1 + ↑n2 + ↑n3 + ↑n4 + ↑n5 + ↑n6 + ↑n7 + ↑n8 : Int), .int .u32 x.t0, .int .u32 x.t1, .int .u32 x.t2, .int .u32 x.t3, .int .u32 x.t4, .int .u8 x.f1, .int .u8 x.f2, .int .u8 x.f3, .int .u8 x.f4, .int .i32 x.off, .int .u32 x.lcid, .int .u16 (94 : Int), .int .u16 (m0 : Int), .int .u16 (94 + ↑n1 : Int), .int .u16 (m1 : Int), .int .u16 (94 + ↑n1 + ↑n2 : Int), .int .u16 (m2 : Int), .int .u16 (94 + ↑n1 + ↑n2 + ↑n3 : Int), .int .u16 (m3 : Int), .int .u16 (94 + ↑n1 + ↑n2 + ↑n3 + ↑n4 : Int), .int .u16 (m4 : Int), .int .u16 (0 : Int), .int .u16 (0 : Int), .int .u16 (94 + ↑n1 + ↑n2 + ↑n3 + ↑n4 + ↑n5 : Int), .int .u16 (m5 : Int), .int .u16 (94 + ↑n1 + ↑n2 + ↑n3 + ↑n4 + ↑n5 + ↑n6 : Int), .int .u16 (m6 : Int), .int .u16 (94 + ↑n1 + ↑n2 + ↑n3 + ↑n4 + ↑n5 + ↑n6 + ↑n7 : Int), .int .u16 (m7 : Int), .int .u8 0, .int .u8 0, .int .u8 0, .int .u8 0, .int .u8 0, .int .u8 0, .int .u16 (94 + ↑n1 + ↑n2 + ↑n3 + ↑n4 + ↑n5 + ↑n6 + ↑n7 + ↑n8 : Int), .int .u16 (0 : Int), .int .u16 (94 + ↑n1 + ↑n2 + ↑n3 + ↑n4 + ↑n5 + ↑n6 + ↑n7 + ↑n8 : Int), .int .u16 (0 : Int), .int .u16 (94 + ↑n1 + ↑n2 + ↑n3 + ↑n4 + ↑n5 + ↑n6 + ↑n7 + ↑n8 : Int), .int .u16 (0 : Int), .int .u32 0]

/-- The header's numbers. -/
def nums (x : Lg) (m0 m1 m2 m3 m4 m5 m6 m7 n1 n2 n3 n4 n5 n6 n7 n8 : Nat) (i : Nat) : Nat := ([94 + n1 + n2 + n3 + n4 + n5 + n6 + n7 + n8, x.t0.toNat, x.t1.toNat, x.t2.toNat, x.t3.toNat, x.t4.toNat, x.f1.toNat, x.f2.toNat, x.f3.toNat, x.f4.toNat, (IntKind.u32.wrap x.off).toNat, x.lcid.toNat, 94, m0, 94 + n1, m1, 94 + n1 + n2, m2, 94 + n1 + n2 + n3, m3, 94 + n1 + n2 + n3 + n4, m4, 0, 0, 94 + n1 + n2 + n3 + n4 + n5, m5, 94 + n1 + n2 + n3 + n4 + n5 + n6, m6, 94 + n1 + n2 + n3 + n4 + n5 + n6 + n7, m7, 0, 94 + n1 + n2 + n3 + n4 + n5 + n6 + n7 + n8, 0, 94 + n1 + n2 + n3 + n4 + n5 + n6 + n7 + n8, 0, 94 + n1 + n2 + n3 + n4 + n5 + n6 + n7 + n8, 0, 0] : List Nat).getD i 0

theorem getD_lt {l : List Nat} {b : Nat} (h : ∀ v ∈ l, v < b) (hb : 0 < b) (i : Nat) : l.getD i 0 < b := by
  by_cases hi : i < l.length
  · rw [List.getD_eq_getElem?_getD, List.getElem?_eq_getElem hi]
    exact h _ (List.getElem_mem _)
  · rw [List.getD_eq_getElem?_getD, List.getElem?_eq_none (by omega)]
    exact hb

/-- Numbers of a login that are small. -/
def Few (m n : Nat) : Prop := (m : Int) ≤ 60 ∧ (n : Int) ≤ 120

theorem eq_at {w : World} {p : Addr} {k : IntKind} {a b : Int} (h : w.cell? p = some (.int k a)) (e : a = b) : w.cell? p = some (.int k b) := by rw [← e]; exact h

theorem rangeAt_set {w : World} {b : Nat} {cs : List Value} (h : w.rangeAt b 0 cs) (j : Nat) (hj : j < cs.length) (u : Value) : (w.setCell ⟨b, j, none⟩ u).rangeAt b 0 (cs.set j u) := by
  intro i v hi
  by_cases hij : j = i
  · subst hij
    rw [List.getElem?_set_self hj] at hi
    injection hi with hi
    subst hi
    rw [Nat.zero_add]
    exact World.cell?_setCell_same w ⟨b, j, none⟩ u (by simpa using h j _ (List.getElem?_eq_getElem hj))
  · rw [List.getElem?_set_ne hij] at hi
    rw [World.cell?_setCell_other w _ _ _ (by simp)]
    exact h i v hi

theorem nums_lt (x : Lg) (hx : x.proper) (hw : x.wf) (m0 m1 m2 m3 m4 m5 m6 m7 n1 n2 n3 n4 n5 n6 n7 n8 : Nat) (h0 : Few m0 n1) (h1 : Few m1 n2) (h2 : Few m2 n3) (h3 : Few m3 n4) (h4 : Few m4 n5) (h5 : Few m5 n6) (h6 : Few m6 n7) (h7 : Few m7 n8) (i : Nat) : nums x m0 m1 m2 m3 m4 m5 m6 m7 n1 n2 n3 n4 n5 n6 n7 n8 i < 4294967296 := by
  obtain ⟨_, hf, _, _, _⟩ := hx
  obtain ⟨w0, w1, w2, w3, w4, w5⟩ := hw
  have g1 := hf x.f1 (by simp)
  have g2 := hf x.f2 (by simp)
  have g3 := hf x.f3 (by simp)
  have g4 := hf x.f4 (by simp)
  unfold Few at h0 h1 h2 h3 h4 h5 h6 h7
  refine getD_lt ?_ (by decide) i
  have hz : (IntKind.u32.wrap x.off).toNat < 4294967296 := by rw [IntKind.wrap_u32]; omega
  repeat (refine List.forall_mem_cons.2 ⟨by omega, ?_⟩)
  exact List.forall_mem_nil _

theorem hdr_of (x : Lg) (hx : x.proper) (hw : x.wf) (m0 m1 m2 m3 m4 m5 m6 m7 n1 n2 n3 n4 n5 n6 n7 n8 : Nat) (w : World) (hh : Nat) (hR : w.rangeAt hh 0 (hdr1 x m0 m1 m2 m3 m4 m5 m6 m7 n1 n2 n3 n4 n5 n6 n7 n8)) : Hdr w hh x.off (nums x m0 m1 m2 m3 m4 m5 m6 m7 n1 n2 n3 n4 n5 n6 n7 n8) := by
  obtain ⟨_, hf, _, _, _⟩ := hx
  obtain ⟨w0, w1, w2, w3, w4, w5⟩ := hw
  have g1 := hf x.f1 (by simp)
  have g2 := hf x.f2 (by simp)
  have g3 := hf x.f3 (by simp)
  have g4 := hf x.f4 (by simp)
  clear hf
  refine ⟨eq_at (hR 0 _ rfl) (by unfold nums; (try rw [List.getD_cons_zero]); (try simp only [List.getD_cons_succ, List.getD_cons_zero]); (try omega)),
    eq_at (hR 1 _ rfl) (by unfold nums; (try rw [List.getD_cons_zero]); (try simp only [List.getD_cons_succ, List.getD_cons_zero]); (try omega)),
    eq_at (hR 2 _ rfl) (by unfold nums; (try rw [List.getD_cons_zero]); (try simp only [List.getD_cons_succ, List.getD_cons_zero]); (try omega)),
    eq_at (hR 3 _ rfl) (by unfold nums; (try rw [List.getD_cons_zero]); (try simp only [List.getD_cons_succ, List.getD_cons_zero]); (try omega)),
    eq_at (hR 4 _ rfl) (by unfold nums; (try rw [List.getD_cons_zero]); (try simp only [List.getD_cons_succ, List.getD_cons_zero]); (try omega)),
    eq_at (hR 5 _ rfl) (by unfold nums; (try rw [List.getD_cons_zero]); (try simp only [List.getD_cons_succ, List.getD_cons_zero]); (try omega)),
    eq_at (hR 6 _ rfl) (by unfold nums; (try rw [List.getD_cons_zero]); (try simp only [List.getD_cons_succ, List.getD_cons_zero]); (try omega)),
    eq_at (hR 7 _ rfl) (by unfold nums; (try rw [List.getD_cons_zero]); (try simp only [List.getD_cons_succ, List.getD_cons_zero]); (try omega)),
    eq_at (hR 8 _ rfl) (by unfold nums; (try rw [List.getD_cons_zero]); (try simp only [List.getD_cons_succ, List.getD_cons_zero]); (try omega)),
    eq_at (hR 9 _ rfl) (by unfold nums; (try rw [List.getD_cons_zero]); (try simp only [List.getD_cons_succ, List.getD_cons_zero]); (try omega)),
    hR 10 _ rfl,
    eq_at (hR 11 _ rfl) (by unfold nums; (try rw [List.getD_cons_zero]); (try simp only [List.getD_cons_succ, List.getD_cons_zero]); (try omega)),
    eq_at (hR 12 _ rfl) (by unfold nums; (try rw [List.getD_cons_zero]); (try simp only [List.getD_cons_succ, List.getD_cons_zero]); (try omega)),
    eq_at (hR 13 _ rfl) (by unfold nums; (try rw [List.getD_cons_zero]); (try simp only [List.getD_cons_succ, List.getD_cons_zero]); (try omega)),
    eq_at (hR 14 _ rfl) (by unfold nums; (try rw [List.getD_cons_zero]); (try simp only [List.getD_cons_succ, List.getD_cons_zero]); (try omega)),
    eq_at (hR 15 _ rfl) (by unfold nums; (try rw [List.getD_cons_zero]); (try simp only [List.getD_cons_succ, List.getD_cons_zero]); (try omega)),
    eq_at (hR 16 _ rfl) (by unfold nums; (try rw [List.getD_cons_zero]); (try simp only [List.getD_cons_succ, List.getD_cons_zero]); (try omega)),
    eq_at (hR 17 _ rfl) (by unfold nums; (try rw [List.getD_cons_zero]); (try simp only [List.getD_cons_succ, List.getD_cons_zero]); (try omega)),
    eq_at (hR 18 _ rfl) (by unfold nums; (try rw [List.getD_cons_zero]); (try simp only [List.getD_cons_succ, List.getD_cons_zero]); (try omega)),
    eq_at (hR 19 _ rfl) (by unfold nums; (try rw [List.getD_cons_zero]); (try simp only [List.getD_cons_succ, List.getD_cons_zero]); (try omega)),
    eq_at (hR 20 _ rfl) (by unfold nums; (try rw [List.getD_cons_zero]); (try simp only [List.getD_cons_succ, List.getD_cons_zero]); (try omega)),
    eq_at (hR 21 _ rfl) (by unfold nums; (try rw [List.getD_cons_zero]); (try simp only [List.getD_cons_succ, List.getD_cons_zero]); (try omega)),
    eq_at (hR 22 _ rfl) (by unfold nums; (try rw [List.getD_cons_zero]); (try simp only [List.getD_cons_succ, List.getD_cons_zero]); (try omega)),
    eq_at (hR 23 _ rfl) (by unfold nums; (try rw [List.getD_cons_zero]); (try simp only [List.getD_cons_succ, List.getD_cons_zero]); (try omega)),
    eq_at (hR 24 _ rfl) (by unfold nums; (try rw [List.getD_cons_zero]); (try simp only [List.getD_cons_succ, List.getD_cons_zero]); (try omega)),
    eq_at (hR 25 _ rfl) (by unfold nums; (try rw [List.getD_cons_zero]); (try simp only [List.getD_cons_succ, List.getD_cons_zero]); (try omega)),
    eq_at (hR 26 _ rfl) (by unfold nums; (try rw [List.getD_cons_zero]); (try simp only [List.getD_cons_succ, List.getD_cons_zero]); (try omega)),
    eq_at (hR 27 _ rfl) (by unfold nums; (try rw [List.getD_cons_zero]); (try simp only [List.getD_cons_succ, List.getD_cons_zero]); (try omega)),
    eq_at (hR 28 _ rfl) (by unfold nums; (try rw [List.getD_cons_zero]); (try simp only [List.getD_cons_succ, List.getD_cons_zero]); (try omega)),
    eq_at (hR 29 _ rfl) (by unfold nums; (try rw [List.getD_cons_zero]); (try simp only [List.getD_cons_succ, List.getD_cons_zero]); (try omega)),
    hR 30 _ rfl,
    hR 31 _ rfl,
    hR 32 _ rfl,
    hR 33 _ rfl,
    hR 34 _ rfl,
    hR 35 _ rfl,
    eq_at (hR 36 _ rfl) (by unfold nums; (try rw [List.getD_cons_zero]); (try simp only [List.getD_cons_succ, List.getD_cons_zero]); (try omega)),
    eq_at (hR 37 _ rfl) (by unfold nums; (try rw [List.getD_cons_zero]); (try simp only [List.getD_cons_succ, List.getD_cons_zero]); (try omega)),
    eq_at (hR 38 _ rfl) (by unfold nums; (try rw [List.getD_cons_zero]); (try simp only [List.getD_cons_succ, List.getD_cons_zero]); (try omega)),
    eq_at (hR 39 _ rfl) (by unfold nums; (try rw [List.getD_cons_zero]); (try simp only [List.getD_cons_succ, List.getD_cons_zero]); (try omega)),
    eq_at (hR 40 _ rfl) (by unfold nums; (try rw [List.getD_cons_zero]); (try simp only [List.getD_cons_succ, List.getD_cons_zero]); (try omega)),
    eq_at (hR 41 _ rfl) (by unfold nums; (try rw [List.getD_cons_zero]); (try simp only [List.getD_cons_succ, List.getD_cons_zero]); (try omega)),
    eq_at (hR 42 _ rfl) (by unfold nums; (try rw [List.getD_cons_zero]); (try simp only [List.getD_cons_succ, List.getD_cons_zero]); (try omega))⟩

/-- The buffer in the midst of a login: T has been written; what the buffer may turn lies below b0 or from b1 on. -/
structure Bf (w00 w : World) (base g hb bb C q b0 b1 : Nat) (v : Value) (T : List Nat) : Prop where
  out : ∃ k, Out w base g hb bb 32767 32768 C 16 k v T ∧ Less 32759 k T
  apart : ∀ j, RawS g hb bb v j → j < b0 ∨ b1 ≤ j
  bas : base ≤ w.heap.size
  from1 : b1 ≤ w.heap.size
  kept : Kept w00 w (fun j => base ≤ j)
  len : T.length ≤ q

/-- A text that lies between b0 and b1. -/
def Txt (w : World) (b0 b1 : Nat) (v : Value) (l : List Nat) : Prop := Bts w v l ∧ ∀ k, v.ownBlock = some k → b0 ≤ k ∧ k < b1

theorem Txt.kept {w w' : World} {b0 b1 : Nat} {v : Value} {l : List Nat} (h : Txt w b0 b1 v l) (hk : Kept w w' (fun j => j < b0 ∨ b1 ≤ j)) : Txt w' b0 b1 v l :=
  ⟨h.1.kept hk (fun k hv e => by have := h.2 k hv; omega), h.2⟩

theorem Out.ge {w : World} {base g hb bb ps N C typ k : Nat} {v : Value} {T : List Nat} (h : Out w base g hb bb ps N C typ k v T) : ∀ j, RawS g hb bb v j → base ≤ j := by
  obtain ⟨_, _, L, hR, _⟩ := h
  exact RawS.ge hR
theorem Out.lt {w : World} {base g hb bb ps N C typ k : Nat} {v : Value} {T : List Nat} (h : Out w base g hb bb ps N C typ k v T) : ∀ j, RawS g hb bb v j → j < w.heap.size := by
  obtain ⟨_, _, L, hR, _⟩ := h
  intro j hj
  rcases hj with rfl | rfl | rfl | hj
  · exact hR.lt
  · exact hR.blk.lt
  · exact hR.wr.lt
  · exact (hR.wr.row.block j hj).2

theorem RawS.moved {w : World} {g hb bb b0 b1 : Nat} {v v' : Value} (h : ∀ j, RawS g hb bb v j → j < b0 ∨ b1 ≤ j) (hm : Moved w v v') (hb1 : b1 ≤ w.heap.size) : ∀ j, RawS g hb bb v' j → j < b0 ∨ b1 ≤ j := by
  intro j hj
  rcases hj with hj | hj | hj | hj
  · exact h j (.inl hj)
  · exact h j (.inr (.inl hj))
  · exact h j (.inr (.inr (.inl hj)))
  · rcases hm j hj with h1 | h1
    · exact h j (.inr (.inr (.inr h1)))
    · exact .inr (by omega)

theorem text_write (w00 : World) (base g hb bb C q b0 b1 : Nat) (v : Value) (T m : List Nat) (x : Value) (w : World) (hB : Bf w00 w base g hb bb C q b0 b1 v T) (hx : Txt w b0 b1 x m) (hm : m.length ≤ 1000) (hq : q ≤ 100000) (c1 : 65536 ≤ C) (c2 : C ≤ 65536) :
    Calls Try.prog 78 #[.pointer (some ⟨g, 0, none⟩), x] w fun e w' => e = .returned (.tuple #[.int .i64 (m.length : Int), .nilIface]) ∧ ∃ v', Bf w00 w' base g hb bb C (q + 1000) b0 b1 v' (T ++ m) ∧ Kept w w' (fun j => j < b0 ∨ b1 ≤ j) := by
  obtain ⟨k, hO, hl⟩ := hB.out
  have hlen := hB.len
  refine (write_any base g hb bb 32767 32768 C 16 k v x T m w hO hl hx.1 (fun j hj hs => ?_) (by omega) (by omega) (by omega) (by omega) (by omega) hB.bas (by omega)).mono ?_
  · have h1 := hx.2 j hj
    have h2 := hB.apart j hs
    omega
  rintro e w' ⟨rfl, k', v', hO', hl', K, M⟩
  have hK : Kept w w' (fun j => j < b0 ∨ b1 ≤ j) := K.mono (fun j _ hj => hB.apart j hj)
  refine ⟨rfl, v', ⟨⟨k', hO', hl'⟩, RawS.moved hB.apart M hB.from1, Nat.le_trans hB.bas K.size, Nat.le_trans hB.from1 K.size, ?_, by simp; omega⟩, hK⟩
  exact hB.kept.trans K (fun j _ hj => hO.ge j hj)

theorem hdr_sets (x : Lg) (m0 m1 m2 m3 m4 m5 m6 m7 n1 n2 n3 n4 n5 n6 n7 n8 : Nat) : hdr1 x m0 m1 m2 m3 m4 m5 m6 m7 n1 n2 n3 n4 n5 n6 n7 n8 = (((((((((((((hdr0 x m0 m1 m2 m3 m4 m5 m6 m7).set 12 (.int .u16 (94))).set 14 (.int .u16 (94 + ↑n1))).set 16 (.int .u16 (94 + ↑n1 + ↑n2))).set 18 (.int .u16 (94 + ↑n1 + ↑n2 + ↑n3))).set 20 (.int .u16 (94 + ↑n1 + ↑n2 + ↑n3 + ↑n4))).set 24 (.int .u16 (94 + ↑n1 + ↑n2 + ↑n3 + ↑n4 + ↑n5))).set 26 (.int .u16 (94 + ↑n1 + ↑n2 + ↑n3 + ↑n4 + ↑n5 + ↑n6))).set 28 (.int .u16 (94 + ↑n1 + ↑n2 + ↑n3 + ↑n4 + ↑n5 + ↑n6 + ↑n7))).set 36 (.int .u16 (94 + ↑n1 + ↑n2 + ↑n3 + ↑n4 + ↑n5 + ↑n6 + ↑n7 + ↑n8))).set 38 (.int .u16 (94 + ↑n1 + ↑n2 + ↑n3 + ↑n4 + ↑n5 + ↑n6 + ↑n7 + ↑n8))).set 40 (.int .u16 (94 + ↑n1 + ↑n2 + ↑n3 + ↑n4 + ↑n5 + ↑n6 + ↑n7 + ↑n8))).set 0 (.int .u32 (94 + ↑n1 + ↑n2 + ↑n3 + ↑n4 + ↑n5 + ↑n6 + ↑n7 + ↑n8))) := rfl
theorem stored12 (x : Lg) (m0 m1 m2 m3 m4 m5 m6 m7 n1 n2 n3 n4 n5 n6 n7 n8 : Nat) (wc : World) (hh : Nat) (hR : wc.rangeAt hh 0 (hdr0 x m0 m1 m2 m3 m4 m5 m6 m7)) : ∃ W : World, ((((((((((((wc.setCell ⟨hh, 12, none⟩ (.int .u16 (94))).setCell ⟨hh, 14, none⟩ (.int .u16 (94 + ↑n1))).setCell ⟨hh, 16, none⟩ (.int .u16 (94 + ↑n1 + ↑n2))).setCell ⟨hh, 18, none⟩ (.int .u16 (94 + ↑n1 + ↑n2 + ↑n3))).setCell ⟨hh, 20, none⟩ (.int .u16 (94 + ↑n1 + ↑n2 + ↑n3 + ↑n4))).setCell ⟨hh, 24, none⟩ (.int .u16 (94 + ↑n1 + ↑n2 + ↑n3 + ↑n4 + ↑n5))).setCell ⟨hh, 26, none⟩ (.int .u16 (94 + ↑n1 + ↑n2 + ↑n3 + ↑n4 + ↑n5 + ↑n6))).setCell ⟨hh, 28, none⟩ (.int .u16 (94 + ↑n1 + ↑n2 + ↑n3 + ↑n4 + ↑n5 + ↑n6 + ↑n7))).setCell ⟨hh, 36, none⟩ (.int .u16 (94 + ↑n1 + ↑n2 + ↑n3 + ↑n4 + ↑n5 + ↑n6 + ↑n7 + ↑n8))).setCell ⟨hh, 38, none⟩ (.int .u16 (94 + ↑n1 + ↑n2 + ↑n3 + ↑n4 + ↑n5 + ↑n6 + ↑n7 + ↑n8))).setCell ⟨hh, 40, none⟩ (.int .u16 (94 + ↑n1 + ↑n2 + ↑n3 + ↑n4 + ↑n5 + ↑n6 + ↑n7 + ↑n8))).setCell ⟨hh, 0, none⟩ (.int .u32 (94 + ↑n1 + ↑n2 + ↑n3 + ↑n4 + ↑n5 + ↑n6 + ↑n7 + ↑n8))) = W ∧ W.rangeAt hh 0 (hdr1 x m0 m1 m2 m3 m4 m5 m6 m7 n1 n2 n3 n4 n5 n6 n7 n8) ∧ Kept wc W (fun k => k = hh) := by
  have e0 : (hdr0 x m0 m1 m2 m3 m4 m5 m6 m7).length = 43 := rfl
  have h1 := rangeAt_set hR 12 (by rw [e0]; decide) (.int .u16 (94))
  have q1 := (Kept.refl wc (fun k => k = hh)).setCell (p := ⟨hh, 12, none⟩) (.inl rfl) (.int .u16 (94))
  have h2 := rangeAt_set h1 14 (by simp only [List.length_set, e0]; decide) (.int .u16 (94 + ↑n1))
  have q2 := q1.setCell (p := ⟨hh, 14, none⟩) (.inl rfl) (.int .u16 (94 + ↑n1))
  have h3 := rangeAt_set h2 16 (by simp only [List.length_set, e0]; decide) (.int .u16 (94 + ↑n1 + ↑n2))
  have q3 := q2.setCell (p := ⟨hh, 16, none⟩) (.inl rfl) (.int .u16 (94 + ↑n1 + ↑n2))
  have h4 := rangeAt_set h3 18 (by simp only [List.length_set, e0]; decide) (.int .u16 (94 + ↑n1 + ↑n2 + ↑n3))
  have q4 := q3.setCell (p := ⟨hh, 18, none⟩) (.inl rfl) (.int .u16 (94 + ↑n1 + ↑n2 + ↑n3))
  have h5 := rangeAt_set h4 20 (by simp only [List.length_set, e0]; decide) (.int .u16 (94 + ↑n1 + ↑n2 + ↑n3 + ↑n4))
  have q5 := q4.setCell (p := ⟨hh, 20, none⟩) (.inl rfl) (.int .u16 (94 + ↑n1 + ↑n2 + ↑n3 + ↑n4))
  have h6 := rangeAt_set h5 24 (by simp only [List.length_set, e0]; decide) (.int .u16 (94 + ↑n1 + ↑n2 + ↑n3 + ↑n4 + ↑n5))
  have q6 := q5.setCell (p := ⟨hh, 24, none⟩) (.inl rfl) (.int .u16 (94 + ↑n1 + ↑n2 + ↑n3 + ↑n4 + ↑n5))
  have h7 := rangeAt_set h6 26 (by simp only [List.length_set, e0]; decide) (.int .u16 (94 + ↑n1 + ↑n2 + ↑n3 + ↑n4 + ↑n5 + ↑n6))
  have q7 := q6.setCell (p := ⟨hh, 26, none⟩) (.inl rfl) (.int .u16 (94 + ↑n1 + ↑n2 + ↑n3 + ↑n4 + ↑n5 + ↑n6))
  have h8 := rangeAt_set h7 28 (by simp only [List.length_set, e0]; decide) (.int .u16 (94 + ↑n1 + ↑n2 + ↑n3 + ↑n4 + ↑n5 + ↑n6 + ↑n7))
  have q8 := q7.setCell (p := ⟨hh, 28, none⟩) (.inl rfl) (.int .u16 (94 + ↑n1 + ↑n2 + ↑n3 + ↑n4 + ↑n5 + ↑n6 + ↑n7))
  have h9 := rangeAt_set h8 36 (by simp only [List.length_set, e0]; decide) (.int .u16 (94 + ↑n1 + ↑n2 + ↑n3 + ↑n4 + ↑n5 + ↑n6 + ↑n7 + ↑n8))
  have q9 := q8.setCell (p := ⟨hh, 36, none⟩) (.inl rfl) (.int .u16 (94 + ↑n1 + ↑n2 + ↑n3 + ↑n4 + ↑n5 + ↑n6 + ↑n7 + ↑n8))
  have h10 := rangeAt_set h9 38 (by simp only [List.length_set, e0]; decide) (.int .u16 (94 + ↑n1 + ↑n2 + ↑n3 + ↑n4 + ↑n5 + ↑n6 + ↑n7 + ↑n8))
  have q10 := q9.setCell (p := ⟨hh, 38, none⟩) (.inl rfl) (.int .u16 (94 + ↑n1 + ↑n2 + ↑n3 + ↑n4 + ↑n5 + ↑n6 + ↑n7 + ↑n8))
  have h11 := rangeAt_set h10 40 (by simp only [List.length_set, e0]; decide) (.int .u16 (94 + ↑n1 + ↑n2 + ↑n3 + ↑n4 + ↑n5 + ↑n6 + ↑n7 + ↑n8))
  have q11 := q10.setCell (p := ⟨hh, 40, none⟩) (.inl rfl) (.int .u16 (94 + ↑n1 + ↑n2 + ↑n3 + ↑n4 + ↑n5 + ↑n6 + ↑n7 + ↑n8))
  have h12 := rangeAt_set h11 0 (by simp only [List.length_set, e0]; decide) (.int .u32 (94 + ↑n1 + ↑n2 + ↑n3 + ↑n4 + ↑n5 + ↑n6 + ↑n7 + ↑n8))
  have q12 := q11.setCell (p := ⟨hh, 0, none⟩) (.inl rfl) (.int .u32 (94 + ↑n1 + ↑n2 + ↑n3 + ↑n4 + ↑n5 + ↑n6 + ↑n7 + ↑n8))
  rw [hdr_sets]
  exact ⟨_, rfl, h12, q12⟩

theorem few_of {s : ByteArray} {m n : Nat} (h : Cnt s m) (hb : (n : Int) ≤ 120) : Few m n := ⟨h.2.2, hb⟩
theorem tz_of (x : Lg) (m0 m1 m2 m3 m4 m5 m6 m7 n1 n2 n3 n4 n5 n6 n7 n8 : Nat) : IntKind.u32.wrap x.off = (nums x m0 m1 m2 m3 m4 m5 m6 m7 n1 n2 n3 n4 n5 n6 n7 n8 10 : Int) := by
  have h : 0 ≤ IntKind.u32.wrap x.off := by rw [IntKind.wrap_u32]; omega
  show _ = ((IntKind.u32.wrap x.off).toNat : Int)
  omega

/-- The payload, by the counts and the lengths. -/
def payB (x : Lg) (m0 m1 m2 m3 m4 m5 m6 m7 n1 n2 n3 n4 n5 n6 n7 n8 : Nat) : List Nat := hdrBytes (nums x m0 m1 m2 m3 m4 m5 m6 m7 n1 n2 n3 n4 n5 n6 n7 n8) ++ ucs (runesOf x.s0) ++ ucs (runesOf x.s1) ++ (ucs (runesOf x.s2)).map mangle ++ ucs (runesOf x.s3) ++ ucs (runesOf x.s4) ++ ucs (runesOf x.s5) ++ ucs (runesOf x.s6) ++ ucs (runesOf x.s7) ++ [] ++ ucs (runesOf em) ++ (ucs (runesOf em)).map mangle
/-- The payload of a login. -/
def Lg.pay (x : Lg) : List Nat := payB x (runesOf x.s0).length (runesOf x.s1).length (runesOf x.s2).length (runesOf x.s3).length (runesOf x.s4).length (runesOf x.s5).length (runesOf x.s6).length (runesOf x.s7).length (ucs (runesOf x.s0)).length (ucs (runesOf x.s1)).length ((ucs (runesOf x.s2)).map mangle).length (ucs (runesOf x.s3)).length (ucs (runesOf x.s4)).length (ucs (runesOf x.s5)).length (ucs (runesOf x.s6)).length (ucs (runesOf x.s7)).length

theorem lit427 {g lb : Nat} {v1 v2 v3 v4 v5 v6 v7 v8 v9 v10 hv : Value} {a : Act} (h : Fr 427 a ((16, hv) :: K83 g lb v1 v2 v3 v4 v5 v6 v7 v8 v9 v10)) :
    ∃ u : Nat → Value, a = ⟨#[.pointer (some ⟨g, 0, none⟩), .pointer (some ⟨lb, 0, none⟩), undef, undef, .nilIface, v1, v2, v3, v4, v5, v6, v7, v8, v9, v10, .slice none 0 0, hv, undef, undef, undef, undef, u 21, u 22, u 23, u 24, u 25, u 26, u 27, u 28, u 29, u 30, u 31, u 32, u 33, u 34, u 35, u 36, u 37, u 38, u 39, u 40, u 41, u 42, u 43, u 44, u 45, u 46, u 47, u 48, u 49, u 50, u 51, u 52, u 53, u 54, u 55, u 56, u 57, u 58, u 59, u 60, u 61, u 62, u 63, u 64, u 65, u 66, u 67, u 68, u 69, u 70, u 71, u 72, u 73, u 74, u 75, u 76, u 77, u 78, u 79, u 80, u 81, u 82, u 83, u 84, u 85, u 86, u 87, u 88, u 89, u 90, u 91, u 92, u 93, u 94, u 95, u 96, u 97, u 98, u 99, u 100, u 101, u 102, u 103, u 104, u 105, u 106, u 107, u 108, u 109, u 110, u 111, u 112, u 113, u 114, u 115, u 116, u 117, u 118, u 119, u 120, u 121, u 122, u 123, u 124, u 125, u 126, u 127, u 128, u 129, u 130, u 131, u 132, u 133, u 134, u 135, u 136, u 137, u 138, u 139, u 140, u 141, u 142, u 143, u 144, u 145, u 146, u 147, u 148, u 149, u 150, u 151, u 152, u 153, u 154, u 155, u 156, u 157, u 158, u 159, u 160, u 161, u 162, u 163, u 164, u 165, u 166, u 167, u 168, u 169, u 170, u 171, u 172, u 173, u 174, u 175, u 176, u 177, u 178, u 179, u 180, u 181, u 182, u 183, u 184, u 185, u 186, u 187, u 188, u 189, u 190, u 191, u 192, u 193, u 194, u 195, u 196, u 197, u 198, u 199, u 200, u 201, u 202, u 203, u 204, u 205, u 206, u 207, u 208, u 209, u 210, u 211, u 212, u 213, u 214, u 215, u 216, u 217, u 218, u 219, u 220, u 221, u 222, u 223, u 224, u 225, u 226, u 227, u 228, u 229, u 230, u 231, u 232, u 233, u 234, u 235, u 236, u 237, u 238, u 239, u 240, u 241, u 242, u 243, u 244, u 245, u 246, u 247, u 248, u 249, u 250, u 251, u 252, u 253, u 254, u 255, u 256, u 257, u 258, u 259, u 260, u 261, u 262, u 263, u 264, u 265, u 266, u 267, u 268, u 269, u 270, u 271, u 272, u 273, u 274, u 275, u 276, u 277, u 278, u 279, u 280, u 281, u 282, u 283, u 284, u 285, u 286, u 287, u 288, u 289, u 290, u 291, u 292, u 293, u 294, u 295, u 296, u 297, u 298, u 299, u 300, u 301, u 302, u 303, u 304, u 305, u 306, u 307, u 308, u 309, u 310, u 311, u 312, u 313, u 314, u 315, u 316, u 317, u 318, u 319, u 320, u 321, u 322, u 323, u 324, u 325, u 326, u 327, u 328, u 329, u 330, u 331, u 332, u 333, u 334, u 335, u 336, u 337, u 338, u 339, u 340, u 341, u 342, u 343, u 344, u 345, u 346, u 347, u 348, u 349, u 350, u 351, u 352, u 353, u 354, u 355, u 356, u 357, u 358, u 359, u 360, u 361, u 362, u 363, u 364, u 365, u 366, u 367, u 368, u 369, u 370, u 371, u 372, u 373, u 374, u 375, u 376, u 377, u 378, u 379, u 380, u 381, u 382, u 383, u 384, u 385, u 386, u 387, u 388, u 389, u 390, u 391, u 392, u 393, u 394, u 395, u 396, u 397, u 398, u 399, u 400, u 401, u 402, u 403, u 404, u 405, u 406, u 407, u 408, u 409, u 410, u 411, u 412, u 413, u 414, u 415, u 416, u 417, u 418, u 419, u 420, u 421, u 422, u 423, u 424, u 425, u 426], []⟩ :=
  ⟨fun i => a.tmps[i]?.getD undef, h.out.trans (by kernel_rfl)⟩

theorem hdrBytes_len (a : Nat → Nat) : (hdrBytes a).length = 94 := by
  unfold hdrBytes
  simp only [List.length_append, leB_length, List.length_cons, List.length_nil]

theorem header_write (w00 : World) (base g hb bb C b0 b1 : Nat) (v : Value) (hh : Nat) (tz : Int) (a : Nat → Nat) (w : World) (hB : Bf w00 w base g hb bb C 94 b0 b1 v []) (hH : Hdr w hh tz a) (ha : ∀ i, a i < 4294967296) (htz : IntKind.u32.wrap tz = (a 10 : Int)) (c1 : 65536 ≤ C) (c2 : C ≤ 65536) :
    Calls Try.prog 107 #[.iface 111 (.pointer (some ⟨g, 0, none⟩)), .pointer (some ⟨hh, 0, none⟩)] w fun e w' => e = .returned .nilIface ∧ ∃ v', Bf w00 w' base g hb bb C 94 b0 b1 v' (hdrBytes a) ∧ Kept w w' (fun j => j < b0 ∨ b1 ≤ j) := by
  obtain ⟨k, hO, hl⟩ := hB.out
  refine (header_any base g hb bb 32767 32768 C 16 k v [] hh tz a w hO hl hH ha htz (by omega) (by omega) (by omega) (by omega) (by omega) hB.bas (by simp)).mono ?_
  rintro e w' ⟨rfl, k', v', hO', hl', K, M⟩
  have hK : Kept w w' (fun j => j < b0 ∨ b1 ≤ j) := K.mono (fun j _ hj => hB.apart j hj)
  rw [List.nil_append] at hO' hl'
  refine ⟨rfl, v', ⟨⟨k', hO', hl'⟩, RawS.moved hB.apart M hB.from1, Nat.le_trans hB.bas K.size, Nat.le_trans hB.from1 K.size, ?_, by rw [hdrBytes_len]; exact Nat.le_refl _⟩, hK⟩
  exact hB.kept.trans K (fun j _ hj => hO.ge j hj)

/-- The buffer ahead of the header. -/
theorem bf_first (w00 w0 wc W : World) (base g hb bb C hh : Nat) (v : Value) (hO : Out w0 base g hb bb 32767 32768 C 16 0 v []) (K0 : Kept w00 w0 (fun j => base ≤ j)) (hF : Fresh w0 wc) (hK : Kept wc W (fun k => k = hh)) (hh0 : w0.heap.size ≤ hh) (hbase : base ≤ w00.heap.size) :
    Bf w00 W base g hb bb C 94 w0.heap.size wc.heap.size v [] := by
  have hlt := hO.lt
  have h1 := K0.size
  have h2 := hF.size
  have h3 := hK.size
  exact ⟨⟨0, (hO.fresh hF).kept hK (fun j hj e => by have := hlt j hj; omega), .inl rfl⟩, fun j hj => .inl (hlt j hj), by omega, h3, (K0.fresh hF).trans hK (fun k _ e => by omega), by simp⟩

/-- A text's row stays, behind the header's stores. -/
theorem txt_first {w1 w2 wc W : World} {b0 hh : Nat} {v : Value} {l : List Nat} (hr : Row w1.heap.size w2 v l) (h0 : b0 ≤ w1.heap.size) (hF : Fresh w2 wc) (hK : Kept wc W (fun k => k = hh)) (hh0 : w2.heap.size ≤ hh) : Txt W b0 wc.heap.size v l := by
  have hb := hr.block
  have h2 := hF.size
  refine ⟨(hr.fresh hF).bts.kept hK (fun k hk e => by have := hb k hk; omega), fun k hk => by have := hb k hk; omega⟩
theorem txt_nil (W : World) (b0 b1 : Nat) : Txt W b0 b1 (.slice none 0 0) [] := ⟨(RowK.nil (E := 5) 0 W).bts, fun k hk => by simp [Value.ownBlock] at hk⟩

/-- What sendLogin leaves: the packets of the payload. -/
def Sent (w w' : World) (base g hb bb C : Nat) (T : List Nat) : Prop := ∃ v L seq l, Raw w' base g hb bb 32767 32768 C 8 seq 16 v l L ∧ AllPacked 32759 16 T l ∧ Kept w w' (fun j => base ≤ j)

theorem finish_write (w00 : World) (base g hb bb C q b0 b1 : Nat) (v : Value) (T : List Nat) (w : World) (hB : Bf w00 w base g hb bb C q b0 b1 v T) (hq : q ≤ 100000) (c1 : 65536 ≤ C) (c2 : C ≤ 65536) :
    Calls Try.prog 79 #[.pointer (some ⟨g, 0, none⟩)] w fun e w' => e = .returned .nilIface ∧ Sent w00 w' base g hb bb C T := by
  obtain ⟨k, hO, hl⟩ := hB.out
  have hlen := hB.len
  refine (finish_any base g hb bb 32767 32768 C 16 k v T w hO (by omega) (by omega) (by omega) (by omega) (by omega) hB.bas (by omega)).mono ?_
  rintro e w' ⟨rfl, v', L, seq, hR, K, M⟩
  obtain ⟨a1, a2, _⟩ := id hO
  exact ⟨rfl, v', L, seq, _, hR, ⟨k, hl, a2, rfl⟩, hB.kept.trans K (fun j _ hj => hO.ge j hj)⟩
end Go.Proofs.Ytahcaoenddapoaa
