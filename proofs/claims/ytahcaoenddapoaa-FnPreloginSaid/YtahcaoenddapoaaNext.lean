/- The reading half of a tdsBuffer: readNextPacket. -/
import Derived.Test.YtahcaoenddapoaaRead1
namespace Go.Proofs.Ytahcaoenddapoaa
open Go.RowKit

def InS (g hb bb k : Nat) : Prop := k = g ∨ k = hb ∨ k = bb
/-- What the transport's array is not: it is elder than the transport. -/
def SrcS (g hb bb k : Nat) : Prop := k = g ∨ k = hb ∨ bb ≤ k

/-- The reading half: its array is block hb, from offset o on (n bytes); D is what the transport still holds. -/
structure In (w : World) (base g hb bb ps o n rpos rsize : Nat) (fin : Bool) (rtyp : Nat) (L D : List Nat) : Prop where
  c0 : w.cell? ⟨g, 0, none⟩ = some (.iface 144 (.pointer (some ⟨bb, 0, none⟩)))
  c1 : w.cell? ⟨g, 1, none⟩ = some (.int .i64 ps)
  c6 : w.cell? ⟨g, 6, none⟩ = some (.slice (some ⟨hb, o, none⟩) n n)
  c7 : w.cell? ⟨g, 7, none⟩ = some (.int .i64 rpos)
  c8 : w.cell? ⟨g, 8, none⟩ = some (.int .i64 rsize)
  c9 : w.cell? ⟨g, 9, none⟩ = some (.bool fin)
  c10 : w.cell? ⟨g, 10, none⟩ = some (.int .u8 rtyp)
  frz : ∀ j, w.frozen? ⟨g, j, none⟩ = false
  blk : Blk w hb L
  len : L.length = o + n
  src : Src w bb (SrcS g hb bb) D
  n1 : g ≠ hb
  n2 : g ≠ bb
  n3 : hb ≠ bb
  b1 : base ≤ g
  b2 : base ≤ hb
  b3 : base ≤ bb

section
variable {w w' : World} {base g hb bb ps o n rpos rsize rtyp : Nat} {fin : Bool} {L D : List Nat}
theorem In.lt (h : In w base g hb bb ps o n rpos rsize fin rtyp L D) : g < w.heap.size := World.block_lt_of_cell? w ⟨g, 0, none⟩ h.c0
theorem In.read {L' D' : List Nat} (h : In w base g hb bb ps o n rpos rsize fin rtyp L D) (hk : Kept w w' (fun k => k = hb ∨ k = bb)) (hl : L'.length = L.length) (hB : Blk w' hb L') (hS : Src w' bb (SrcS g hb bb) D') : In w' base g hb bb ps o n rpos rsize fin rtyp L' D' :=
  have hg : ¬ (g = hb ∨ g = bb) := fun e => e.elim h.n1 h.n2
  have c := fun (j : Nat) {u : Value} (hc : w.cell? ⟨g, j, none⟩ = some u) => hk.held (p := ⟨g, j, none⟩) hc hg
  ⟨c 0 h.c0, c 1 h.c1, c 6 h.c6, c 7 h.c7, c 8 h.c8, c 9 h.c9, c 10 h.c10, fun j => (hk.frozen (p := ⟨g, j, none⟩) h.lt hg).trans (h.frz j), hB, hl.trans h.len, hS, h.n1, h.n2, h.n3, h.b1, h.b2, h.b3⟩
theorem In.fresh (h : In w base g hb bb ps o n rpos rsize fin rtyp L D) (hk : Fresh w w') : In w' base g hb bb ps o n rpos rsize fin rtyp L D :=
  h.read (hk.mono (fun _ _ h => h.elim)) rfl (h.blk.fresh hk) (h.src.kept hk (fun _ h => h.elim) (fun h => h))

theorem In.cell (h : In w base g hb bb ps o n rpos rsize fin rtyp L D) (j : Nat) {x u : Value} (hj : w.cell? ⟨g, j, none⟩ = some x) {rpos' rsize' rtyp' : Nat} {fin' : Bool}
    (h7 : (if j = 7 then u else .int .i64 rpos) = .int .i64 rpos') (h8 : (if j = 8 then u else .int .i64 rsize) = .int .i64 rsize') (h9 : (if j = 9 then u else .bool fin) = .bool fin') (h10 : (if j = 10 then u else .int .u8 rtyp) = .int .u8 rtyp')
    (hj0 : j ≠ 0) (hj1 : j ≠ 1) (hj6 : j ≠ 6) : In (w.setCell ⟨g, j, none⟩ u) base g hb bb ps o n rpos' rsize' fin' rtyp' L D :=
  have hk := keptG w g j u
  have same : (w.setCell ⟨g, j, none⟩ u).cell? ⟨g, j, none⟩ = some u := World.cell?_setCell_same w _ _ hj
  have other : ∀ i x, i ≠ j → w.cell? ⟨g, i, none⟩ = some x → (w.setCell ⟨g, j, none⟩ u).cell? ⟨g, i, none⟩ = some x := fun i x hi hx => by
    rw [World.cell?_setCell_other w _ _ _ (by intro e; injection e with e1 e2; exact hi e2.symm)]; exact hx
  have pick : ∀ (i : Nat) (x y : Value), w.cell? ⟨g, i, none⟩ = some x → (if j = i then u else x) = y → (w.setCell ⟨g, j, none⟩ u).cell? ⟨g, i, none⟩ = some y := fun i x y hx hy => by
    by_cases hi : j = i
    · subst hi; rw [if_pos rfl] at hy; rw [← hy]; exact same
    · rw [if_neg hi] at hy; rw [← hy]; exact other i x (fun e => hi e.symm) hx
  ⟨other 0 _ (Ne.symm hj0) h.c0, other 1 _ (Ne.symm hj1) h.c1, other 6 _ (Ne.symm hj6) h.c6, pick 7 _ _ h.c7 h7, pick 8 _ _ h.c8 h8, pick 9 _ _ h.c9 h9, pick 10 _ _ h.c10 h10,
    fun i => by rw [World.frozen?_setCell]; exact h.frz i, h.blk.kept hk (fun e => h.n1 e.symm), h.len, h.src.kept hk (fun _ e => .inl e) (fun e => h.n2 e.symm), h.n1, h.n2, h.n3, h.b1, h.b2, h.b3⟩
end

theorem splice_get (L cs : List Nat) (o j : Nat) (h : o + cs.length ≤ L.length) (hj : j < cs.length) (h' : o + j < (splice L o cs).length) : (splice L o cs)[o + j] = cs[j] := by
  have e : (splice L o cs)[o + j]? = some cs[j] := by
    rw [splice_spec, List.getElem?_append_right (by rw [List.length_take]; omega), List.length_take, Nat.min_eq_left (by omega), Nat.add_sub_cancel_left, List.getElem?_append_left hj]
    exact List.getElem?_eq_getElem hj
  rw [List.getElem?_eq_getElem h'] at e
  exact Option.some.inj e

theorem splice_back (L cs : List Nat) (o : Nat) (h : o + cs.length ≤ L.length) : ((splice L o cs).drop o).take cs.length = cs := by
  have e : (L.take o).length = o := by rw [List.length_take]; omega
  rw [splice_spec, List.drop_append_of_le_length (by omega), List.drop_eq_nil_of_le (by omega), List.nil_append, List.take_append_of_le_length (Nat.le_refl _), List.take_length]

theorem enter143 (args : Array Value) (W : World) : (callFunc 143 args).run Try.prog W = .ok (.enter 143 args) W := run_enter Try.func143 (by kernel_rfl) (by kernel_rfl) args W

set_option maxRecDepth 100000 in
set_option maxHeartbeats 4000000 in
theorem next_any (base g hb bb ps o n rpos rsize rtyp : Nat) (fin : Bool) (L D : List Nat) (w : World) (hI : In w base g hb bb ps o n rpos rsize fin rtyp L D) (typ st seq : Nat) (pay F : List Nat) (hD : D = pack typ st seq pay ++ F)
    (hst : st < 256) (hp0 : 0 < pay.length) (hpp : pay.length + 8 ≤ ps) (hps : ps ≤ 32767) (hpn : ps < n) (hn : n ≤ 100000) :
    Calls Try.prog 105 #[.pointer (some ⟨g, 0, none⟩)] w fun e w' => e = .returned .nilIface ∧ ∃ L', In w' base g hb bb ps o n 8 (pay.length + 8) (decide (st ≠ 0)) typ L' F ∧ (L'.drop (o + 8)).take pay.length = pay ∧ Kept w w' (InS g hb bb) := by
  have c0 := hI.c0
  have c6 := hI.c6
  have hlen := hI.len
  have i8 : (8 : Int) ≤ (n : Int) := by omega
  have hDl : D.length = pay.length + 8 + F.length := by rw [hD]; simp [pack]; omega
  have hDt : D.take 8 = [typ, st, (pay.length + 8) / 256 % 256, (pay.length + 8) % 256, 0, 0, seq, 0] := by rw [hD]; simp [pack]
  have hDd : D.drop 8 = pay ++ F := by rw [hD]; simp [pack]
  have HDT := Go.Lib.hid hDt
  have HDD := Go.Lib.hid hDd
  clear hDt hDd hD
  go_enter Try.func105, Try.ntmps105
  go_wp2_with (fail)
  refine (readFull_any bb hb o 8 n D L (SrcS g hb bb) (.inr (.inl rfl)) (.inr (.inr (Nat.le_refl _))) _ hI.src (by omega) (by omega) hI.blk (by omega) hI.n3 (by omega) hn).mono ?_
  rintro e w1 ⟨rfl, hs1, hb1, hk1⟩
  rw [HDT.out] at hb1
  rw [HDD.out] at hs1
  have I1 := hI.read hk1 (by rw [length_splice]; simp; omega) hb1 hs1
  have hx : ∀ (j : Nat) (hj : j < 8), w1.cell? ⟨hb, o + j, none⟩ = some (.int .u8 ((([typ, st, (pay.length + 8) / 256 % 256, (pay.length + 8) % 256, 0, 0, seq, 0] : List Nat)[j] : Nat) : Int)) := fun j hj => by
    rw [hb1.cellAt (o + j) (by rw [length_splice]; omega; simp; omega), splice_get _ _ _ _ (by simp; omega) hj]
  have x0 := hx 0 (by decide)
  have x1 := hx 1 (by decide)
  have x2 := hx 2 (by decide)
  have x3 := hx 3 (by decide)
  have x4 := hx 4 (by decide)
  have x5 := hx 5 (by decide)
  have x6 := hx 6 (by decide)
  have x7 := hx 7 (by decide)
  simp only [List.getElem_cons_zero, List.getElem_cons_succ, Nat.add_zero] at x0 x1 x2 x3 x4 x5 x6 x7
  have K1 : Kept w w1 (InS g hb bb) := hk1.mono (fun k _ e => e.elim (fun e => .inr (.inl e)) (fun e => .inr (.inr e)))
  clear hx hb1 hs1 hk1 c0 c6
  obtain ⟨hi, hHi⟩ : ∃ hi, (pay.length + 8) / 256 % 256 = hi := ⟨_, rfl⟩
  obtain ⟨lo, hLo⟩ : ∃ lo, (pay.length + 8) % 256 = lo := ⟨_, rfl⟩
  rw [hHi] at x2 I1
  rw [hLo] at x3 I1
  have hh : hi < 256 := by omega
  have hl : lo < 256 := by omega
  have hN : hi * 256 + lo = pay.length + 8 := by omega
  have HN := Go.Lib.hid hN
  clear hN hHi hLo
  have i0 : (0 : Int) < (8 : Int) := by omega
  have i4 : (4 : Int) ≤ (n : Int) := by omega
  have i6 : (6 : Int) ≤ (n : Int) := by omega
  have j2 : ¬ n = 2 := by omega
  have j4 : ¬ n = 4 := by omega
  go_wp2_with (fail)
  have y0 := World.new_ne w1 _ x0
  have y1 := World.new_ne w1 _ x1
  have y2 := World.new_ne w1 _ x2
  have y3 := World.new_ne w1 _ x3
  have y4 := World.new_ne w1 _ x4
  have y5 := World.new_ne w1 _ x5
  have y6 := World.new_ne w1 _ x6
  have y7 := World.new_ne w1 _ x7
  have hda : ∀ (W : World) (q : Nat) (ob : Obj), (W.drewN q).alloc ob = (W.alloc ob).drewN q := fun _ _ _ => rfl
  have hds : ∀ (W : World) (q : Nat) (p : Addr) (u : Value), (W.drewN q).setCell p u = (W.setCell p u).drewN q := fun _ _ _ _ => rfl
  go_region_held3 (fun w' => w'.cell? ⟨hb, o, none⟩ = some (.int .u8 (typ : Int)) ∧ w'.cell? ⟨hb, o + 1, none⟩ = some (.int .u8 (st : Int)) ∧ w'.cell? ⟨hb, o + 2, none⟩ = some (.int .u8 (hi : Int)) ∧ w'.cell? ⟨hb, o + 3, none⟩ = some (.int .u8 (lo : Int)) ∧ w'.cell? ⟨hb, o + 4, none⟩ = some (.int .u8 ((0 : Nat) : Int)) ∧ w'.cell? ⟨hb, o + 5, none⟩ = some (.int .u8 ((0 : Nat) : Int)) ∧ w'.cell? ⟨hb, o + 6, none⟩ = some (.int .u8 (seq : Int)) ∧ w'.cell? ⟨hb, o + 7, none⟩ = some (.int .u8 ((0 : Nat) : Int))) (go_keep)
    (first
      | (go_at_call 144; (with_reducible refine (beU16_any hb (o + 2) 2 (n - 2) hi lo (by decide) hh hl _ ?_ ?_).mono ?_); (simp [*]); (simp [*]); rintro e w' ⟨rfl, q, rfl⟩)
      | (go_at_call 144; (with_reducible refine (beU16_any hb (o + 4) 2 (n - 4) 0 0 (by decide) (by decide) (by decide) _ ?_ ?_).mono ?_); (simp [*]); (simp [*]); rintro e w' ⟨rfl, q, rfl⟩))
  all_goals
    have e256 : (hi : Int) * 256 + (lo : Int) = ((pay.length + 8 : Nat) : Int) := by have := HN.out; omega
    rw [e256]
    clear e256 x0 x1 x2 x3 x4 x5 x6 x7 y0 y1 y2 y3 y4 y5 y6 y7
    have hnew : (w1.alloc (.cells #[.int .u8 (typ : Int), .int .u8 (st : Int), .int .u16 ((pay.length + 8 : Nat) : Int), .int .u16 0, .int .u8 (seq : Int), .int .u8 0] 203)).heap[w1.heap.size]? = some (.cells #[.int .u8 (typ : Int), .int .u8 (st : Int), .int .u16 ((pay.length + 8 : Nat) : Int), .int .u16 0, .int .u8 (seq : Int), .int .u8 0] 203) := heap_alloc_new _ _
    have g0 := cell_of_row _ _ 0 _ _ _ hnew
    have g1 := cell_of_row _ _ 1 _ _ _ hnew
    have g2 := cell_of_row _ _ 2 _ _ _ hnew
    have HF2 : ∀ k, Fresh w1 ((w1.alloc (.cells #[.int .u8 (typ : Int), .int .u8 (st : Int), .int .u16 ((pay.length + 8 : Nat) : Int), .int .u16 0, .int .u8 (seq : Int), .int .u8 0] 203)).drewN k) := fun k => ((Kept.refl w1 _).alloc _).drewN k
    clear hnew hda hds
    generalize hM : pay.length + 8 = M at *
    have HM := Go.Lib.hid hM
    have m1 : pay.length + 8 ≤ M := by omega
    have m2 : M ≤ pay.length + 8 := by omega
    have m3 : ((M : Nat) : Int) ≤ (ps : Int) := by omega
    have m4 : (8 : Int) ≤ ((M : Nat) : Int) := by omega
    have m5 : ((M : Nat) : Int) ≤ (n : Int) := by omega
    have m6 : ¬ n = 8 := by omega
    clear hM
    generalize hW2 : World.drewN _ _ = W2
    have F2 : Fresh w1 W2 := hW2 ▸ HF2 _
    have d0 : W2.cell? ⟨w1.heap.size, 0, none⟩ = some (.int .u8 (typ : Int)) := by rw [← hW2]; exact g0
    have d1 : W2.cell? ⟨w1.heap.size, 1, none⟩ = some (.int .u8 (st : Int)) := by rw [← hW2]; exact g1
    have d2 : W2.cell? ⟨w1.heap.size, 2, none⟩ = some (.int .u16 (M : Int)) := by rw [← hW2]; exact g2
    clear hW2 HF2 g0 g1 g2
    have I2 := I1.fresh F2
    have hHg : w1.heap.size ≠ g := by have := I1.lt; omega
    have hHh : w1.heap.size ≠ hb := by have := I1.blk.lt; omega
    have hHb : w1.heap.size ≠ bb := by
      obtain ⟨A, m, c, h1, _⟩ := I1.src
      have := World.block_lt_of_cell? w1 ⟨bb, 0, none⟩ h1
      intro e; simp at this; omega
    have c0 := I2.c0
    have c1 := I2.c1
    have c6 := I2.c6
    have K2 : Kept w W2 (InS g hb bb) := K1.fresh F2
    have I2h := Go.Lib.hid I2
    clear I1 I2 F2 K1
    go_wp2_with (fail)
    go_quiet (fail)
    go_wp2_with (fail)
    generalize hW3 : World.drewN W2 _ = W3
    have F3 : Fresh W2 W3.drew := hW3 ▸ ((Kept.refl W2 _).drewN _).drew
    have I3 := I2h.out.fresh F3
    have e0 : W3.cell? ⟨g, 0, none⟩ = some (.iface 144 (.pointer (some ⟨bb, 0, none⟩))) := by rw [← hW3]; exact c0
    have e6 : W3.cell? ⟨g, 6, none⟩ = some (.slice (some ⟨hb, o, none⟩) n n) := by rw [← hW3]; exact c6
    have e2 : W3.cell? ⟨w1.heap.size, 2, none⟩ = some (.int .u16 (M : Int)) := by rw [← hW3]; exact d2
    have e2d : W3.drew.cell? ⟨w1.heap.size, 2, none⟩ = some (.int .u16 (M : Int)) := e2
    have e1d : W3.drew.cell? ⟨w1.heap.size, 1, none⟩ = some (.int .u8 (st : Int)) := by show W3.cell? _ = _; rw [← hW3]; exact d1
    have e0d : W3.drew.cell? ⟨w1.heap.size, 0, none⟩ = some (.int .u8 (typ : Int)) := by show W3.cell? _ = _; rw [← hW3]; exact d0
    have K3 : Kept w W3.drew (InS g hb bb) := K2.fresh F3
    have hl1 := I3.len
    have hpf : M - 8 ≤ (pay ++ F).length := by rw [List.length_append]; omega
    have hof : o + 8 + (M - 8) ≤ (splice L o [typ, st, hi, lo, 0, 0, seq, 0]).length := by omega
    have hM8 : 0 < M - 8 := by omega
    have hMn : M - 8 ≤ n - 8 := by omega
    have hnn : n - 8 ≤ 100000 := by omega
    have nHG : ¬ (w1.heap.size = hb ∨ w1.heap.size = bb) := fun e => e.elim hHh hHb
    have ngG : ¬ (g = hb ∨ g = bb) := fun e => e.elim I3.n1 I3.n2
    have hSh : SrcS g hb bb hb := Or.inr (Or.inl rfl)
    have hSb : SrcS g hb bb bb := Or.inr (Or.inr (Nat.le_refl _))
    have I3c0 := I3.c0
    have I3c6 := I3.c6
    clear hW3 F3 c0 c6 c1 d0 d1 d2 K2 I2h
    go_region_held3 (fun w' => w'.cell? ⟨g, 0, none⟩ = some (.iface 144 (.pointer (some ⟨bb, 0, none⟩))) ∧ w'.cell? ⟨g, 6, none⟩ = some (.slice (some ⟨hb, o, none⟩) n n) ∧ w'.cell? ⟨w1.heap.size, 2, none⟩ = some (.int .u16 (M : Int))) (go_keep)
      (first
        | (go_at_call 143; (with_reducible refine (readFull_any bb hb (o + 8) (M - 8) (n - 8) (pay ++ F) (splice L o [typ, st, hi, lo, 0, 0, seq, 0]) (SrcS g hb bb) hSh hSb _ I3.src hM8 hpf I3.blk hof I3.n3 hMn hnn).mono ?_); rintro e W4 ⟨rfl, b1, b2, b3⟩; have s0 := b3.held I3c0 ngG; have s6 := b3.held I3c6 ngG; have s2 := b3.held e2d nHG))
    have hM8' : M - 8 = pay.length := by omega
    have ht8 : (pay ++ F).take (M - 8) = pay := by rw [hM8']; simp
    have hd8 : (pay ++ F).drop (M - 8) = F := by rw [hM8']; simp
    rw [hd8] at b1
    rw [ht8] at b2
    have I4 := I3.read b3 (by rw [length_splice]; omega) b2 b1
    have K4 : Kept w W4 (InS g hb bb) := K3.trans b3 (fun k _ e => e.elim (fun e => .inr (.inl e)) (fun e => .inr (.inr e)))
    have s1 := b3.held e1d nHG
    have s00 := b3.held e0d nHG
    have hg' : ∀ j, W4.cell? ⟨w1.heap.size, j, none⟩ = W4.cell? ⟨w1.heap.size, j, none⟩ := fun _ => rfl
    clear hg' s0 s6 b1 b2 b3 e0 e6 e2 e2d e1d e0d K3 I3 hpf hof ht8 hd8 I3c0 I3c6 hM8'
    have q7 := I4.c7
    have q8 := I4.c8
    have q9 := I4.c9
    have q10 := I4.c10
    have f7 := I4.frz 7
    have f8 := I4.frz 8
    have f9 := I4.frz 9
    have f10 := I4.frz 10
    have I4h := Go.Lib.hid I4
    clear I4
    go_wp2
    go_ret
    have eb : ((st : Int) != 0) = decide (st ≠ 0) := by
      by_cases hz : st = 0
      · subst hz; rfl
      · simp [hz]
    have I5 := I4h.out.cell 7 q7 (u := .int .i64 8) (rpos' := 8) (rsize' := rsize) (rtyp' := rtyp) (fin' := fin) rfl rfl rfl rfl (by decide) (by decide) (by decide)
    have I6 := I5.cell 8 I5.c8 (u := .int .i64 M) (rpos' := 8) (rsize' := M) (rtyp' := rtyp) (fin' := fin) rfl rfl rfl rfl (by decide) (by decide) (by decide)
    have I7 := I6.cell 9 I6.c9 (u := .bool ((st : Int) != 0)) (rpos' := 8) (rsize' := M) (rtyp' := rtyp) (fin' := decide (st ≠ 0)) rfl rfl (by rw [if_pos rfl, eb]) rfl (by decide) (by decide) (by decide)
    have I8 := I7.cell 10 I7.c10 (u := .int .u8 typ) (rpos' := 8) (rsize' := M) (rtyp' := typ) (fin' := decide (st ≠ 0)) rfl rfl rfl rfl (by decide) (by decide) (by decide)
    have K8 := (((K4.setCell (p := ⟨g, 7, none⟩) (.inl (.inl rfl)) (.int .i64 8)).setCell (p := ⟨g, 8, none⟩) (.inl (.inl rfl)) (.int .i64 M)).setCell (p := ⟨g, 9, none⟩) (.inl (.inl rfl)) (.bool ((st : Int) != 0))).setCell (p := ⟨g, 10, none⟩) (.inl (.inl rfl)) (.int .u8 typ)
    refine ⟨rfl, _, by rw [HM.out]; exact I8, splice_back _ _ _ (by omega), K8⟩
end Go.Proofs.Ytahcaoenddapoaa
