/- The writing half of a tdsBuffer, as cells. -/
import Derived.Test.YtahcaoenddapoaaCopy
import Derived.Test.YtahcaoenddapoaaPut
namespace Go.Proofs.Ytahcaoenddapoaa
open Go.RowKit

/-- What the buffer in block g holds: its transport (block bb: the bytes 'out'), its array (block hb: the bytes L), and the cells of its writing half. -/
structure Raw (w : World) (base g hb bb : Nat) (ps N C pos seq typ : Nat) (v : Value) (out L : List Nat) : Prop where
  c0 : w.cell? ⟨g, 0, none⟩ = some (.iface 144 (.pointer (some ⟨bb, 0, none⟩)))
  c1 : w.cell? ⟨g, 1, none⟩ = some (.int .i64 ps)
  c2 : w.cell? ⟨g, 2, none⟩ = some (.slice (some ⟨hb, 0, none⟩) N C)
  c3 : w.cell? ⟨g, 3, none⟩ = some (.int .i64 pos)
  c4 : w.cell? ⟨g, 4, none⟩ = some (.int .u8 seq)
  c5 : w.cell? ⟨g, 5, none⟩ = some (.int .u8 typ)
  c11 : w.cell? ⟨g, 11, none⟩ = some .nilFunc
  frz : ∀ j, w.frozen? ⟨g, j, none⟩ = false
  blk : Blk w hb L
  len : L.length = C
  wr : Wr w base bb v out
  n1 : g ≠ hb
  n2 : g ≠ bb
  n3 : hb ≠ bb
  n4 : v.ownBlock ≠ some g
  n5 : v.ownBlock ≠ some hb
  b1 : base ≤ g
  b2 : base ≤ hb
  b3 : base ≤ bb

/-- The blocks that a step of the writing half may turn. -/
def RawS (g hb bb : Nat) (v : Value) (k : Nat) : Prop := k = g ∨ k = hb ∨ k = bb ∨ v.ownBlock = some k

section
variable {w w' : World} {base g hb bb ps N C pos seq typ : Nat} {v : Value} {out L : List Nat}

theorem Raw.lt (h : Raw w base g hb bb ps N C pos seq typ v out L) : g < w.heap.size := World.block_lt_of_cell? w ⟨g, 0, none⟩ h.c0

theorem Raw.kept {S : Nat → Prop} (h : Raw w base g hb bb ps N C pos seq typ v out L) (hk : Kept w w' S) (h1 : ¬ S g) (h2 : ¬ S hb) (h3 : ¬ S bb) (h4 : ∀ k, v.ownBlock = some k → ¬ S k) : Raw w' base g hb bb ps N C pos seq typ v out L :=
  have c := fun (j : Nat) {u : Value} (hc : w.cell? ⟨g, j, none⟩ = some u) => hk.held (p := ⟨g, j, none⟩) hc h1
  ⟨c 0 h.c0, c 1 h.c1, c 2 h.c2, c 3 h.c3, c 4 h.c4, c 5 h.c5, c 11 h.c11, fun j => (hk.frozen (p := ⟨g, j, none⟩) h.lt h1).trans (h.frz j), h.blk.kept hk h2, h.len, h.wr.kept hk h3 h4, h.n1, h.n2, h.n3, h.n4, h.n5, h.b1, h.b2, h.b3⟩
theorem Raw.fresh (h : Raw w base g hb bb ps N C pos seq typ v out L) (hk : Fresh w w') : Raw w' base g hb bb ps N C pos seq typ v out L := h.kept hk (fun h => h) (fun h => h) (fun h => h) (fun _ _ h => h)

/-- The buffer behind a change of its array. -/
theorem Raw.arr (h : Raw w base g hb bb ps N C pos seq typ v out L) {L' : List Nat} (hk : Kept w w' (fun k => k = hb)) (hb' : Blk w' hb L') (hl : L'.length = L.length) : Raw w' base g hb bb ps N C pos seq typ v out L' :=
  have c := fun (j : Nat) {u : Value} (hc : w.cell? ⟨g, j, none⟩ = some u) => hk.held (p := ⟨g, j, none⟩) hc h.n1
  ⟨c 0 h.c0, c 1 h.c1, c 2 h.c2, c 3 h.c3, c 4 h.c4, c 5 h.c5, c 11 h.c11, fun j => (hk.frozen (p := ⟨g, j, none⟩) h.lt h.n1).trans (h.frz j), hb', hl.trans h.len, h.wr.kept hk (fun e => h.n3 e.symm) (fun k hk e => h.n5 (by rw [hk, e])), h.n1, h.n2, h.n3, h.n4, h.n5, h.b1, h.b2, h.b3⟩
theorem Raw.set (h : Raw w base g hb bb ps N C pos seq typ v out L) (j b : Nat) : Raw (w.setCell ⟨hb, j, none⟩ (.int .u8 (b : Int))) base g hb bb ps N C pos seq typ v out (L.set j b) :=
  h.arr ((Kept.refl w (fun k => k = hb)).setCell (p := ⟨hb, j, none⟩) (.inl rfl) _) (h.blk.stored j b) (by simp)

/-- The buffer behind a change of what it has sent. -/
theorem Raw.sent (h : Raw w base g hb bb ps N C pos seq typ v out L) {v' : Value} {out' : List Nat} (hk : Kept w w' (WrS bb v)) (hw : Wr w' base bb v' out') (hm : Moved w v v') : Raw w' base g hb bb ps N C pos seq typ v' out' L :=
  have hg : ¬ WrS bb v g := fun e => e.elim h.n2 h.n4
  have hh : ¬ WrS bb v hb := fun e => e.elim h.n3 h.n5
  have c := fun (j : Nat) {u : Value} (hc : w.cell? ⟨g, j, none⟩ = some u) => hk.held (p := ⟨g, j, none⟩) hc hg
  ⟨c 0 h.c0, c 1 h.c1, c 2 h.c2, c 3 h.c3, c 4 h.c4, c 5 h.c5, c 11 h.c11, fun j => (hk.frozen (p := ⟨g, j, none⟩) h.lt hg).trans (h.frz j), h.blk.kept hk hh, h.len, hw, h.n1, h.n2, h.n3,
    fun e => (hm g e).elim h.n4 (fun hle => by have := h.lt; omega), fun e => (hm hb e).elim h.n5 (fun hle => by have := h.blk.lt; omega), h.b1, h.b2, h.b3⟩

theorem keptG (w : World) (g j : Nat) (u : Value) : Kept w (w.setCell ⟨g, j, none⟩ u) (fun k => k = g) := (Kept.refl w (fun k => k = g)).setCell (p := ⟨g, j, none⟩) (.inl rfl) u

/-- The buffer behind a store to a cell of it. -/
theorem Raw.cell (h : Raw w base g hb bb ps N C pos seq typ v out L) (j : Nat) {o u : Value} (hj : w.cell? ⟨g, j, none⟩ = some o) {pos' seq' typ' : Nat}
    (h3 : (if j = 3 then u else .int .i64 pos) = .int .i64 pos') (h4 : (if j = 4 then u else .int .u8 seq) = .int .u8 seq') (h5 : (if j = 5 then u else .int .u8 typ) = .int .u8 typ')
    (hj0 : j ≠ 0) (hj1 : j ≠ 1) (hj2 : j ≠ 2) (hj11 : j ≠ 11) :
    Raw (w.setCell ⟨g, j, none⟩ u) base g hb bb ps N C pos' seq' typ' v out L :=
  have hk := keptG w g j u
  have same : (w.setCell ⟨g, j, none⟩ u).cell? ⟨g, j, none⟩ = some u := World.cell?_setCell_same w _ _ hj
  have other : ∀ i x, i ≠ j → w.cell? ⟨g, i, none⟩ = some x → (w.setCell ⟨g, j, none⟩ u).cell? ⟨g, i, none⟩ = some x := fun i x hi hx => by
    rw [World.cell?_setCell_other w _ _ _ (by intro e; injection e with e1 e2; exact hi e2.symm)]; exact hx
  have pick : ∀ (i : Nat) (x y : Value), w.cell? ⟨g, i, none⟩ = some x → (if j = i then u else x) = y → (w.setCell ⟨g, j, none⟩ u).cell? ⟨g, i, none⟩ = some y := fun i x y hx hy => by
    by_cases hi : j = i
    · subst hi; rw [if_pos rfl] at hy; rw [← hy]; exact same
    · rw [if_neg hi] at hy; rw [← hy]; exact other i x (fun e => hi e.symm) hx
  ⟨other 0 _ (Ne.symm hj0) h.c0, other 1 _ (Ne.symm hj1) h.c1, other 2 _ (Ne.symm hj2) h.c2, pick 3 _ _ h.c3 h3, pick 4 _ _ h.c4 h4, pick 5 _ _ h.c5 h5, other 11 _ (Ne.symm hj11) h.c11,
    fun i => by rw [World.frozen?_setCell]; exact h.frz i, h.blk.kept hk (fun e => h.n1 e.symm), h.len, h.wr.kept hk (fun e => h.n2 e.symm) (fun k hk e => h.n4 (by rw [hk, e])), h.n1, h.n2, h.n3, h.n4, h.n5, h.b1, h.b2, h.b3⟩
end

set_option maxRecDepth 100000 in
theorem bePut_any (hb o n c x : Nat) (hn : 2 ≤ n) (hx : x < 65536) (L : List Nat) (w : World) (hB : Blk w hb L) (ho : o + n ≤ L.length) :
    Calls Try.prog 142 #[.slice (some ⟨hb, o, none⟩) n c, .int .u16 x] w fun e w' => e = .returned (.tuple #[]) ∧ Blk w' hb ((L.set o (x / 256 % 256)).set (o + 1) (x % 256)) ∧ Kept w w' (fun k => k = hb) := by
  have h0 := hB.cellAt o (by omega)
  have h1 := hB.cellAt (o + 1) (by omega)
  have f0 := hB.frozenAt o
  have f1 := hB.frozenAt (o + 1)
  generalize L[o] = L0 at *
  generalize L[o + 1] = L1 at *
  go_enter Try.func142, Try.ntmps142
  go_wp2
  go_end0
  have hs := (hB.stored o (x / 256 % 256)).stored (o + 1) (x % 256)
  have e1 : ((x / 256 % 256 : Nat) : Int) = (x : Int) / 256 := by omega
  have e2 : ((x % 256 : Nat) : Int) = (x : Int) % 256 := by omega
  rw [e1, e2] at hs
  exact ⟨rfl, hs, ((Kept.refl w (fun k => k = hb)).setCell (p := ⟨hb, o, none⟩) (.inl rfl) _).setCell (p := ⟨hb, o + 1, none⟩) (.inl rfl) _⟩
end Go.Proofs.Ytahcaoenddapoaa
