/- Words on memory: what a call leaves as it was; rows of bytes that a call owns; slices that read as bytes. No program in sight. -/
import Derived.WalkKit
import Derived.Deep.Draws
import Derived.Deep.AppendLies
import Derived.Lib.OthersKept
namespace Go.Proofs.YthmopakaikhjlaaGreatDoor
open Go.RowKit

/-- w' is w with new blocks, and with writes to the blocks of S alone. -/
structure Kept (w w' : World) (S : Nat → Prop) : Prop where
  os : w'.os = w.os
  tape : w'.tape = w.tape
  output : w'.output = w.output
  size : w.heap.size ≤ w'.heap.size
  block : ∀ k, k < w.heap.size → ¬ S k → w'.heap[k]? = w.heap[k]?

/-- Nothing that was there has turned. -/
abbrev Fresh (w w' : World) : Prop := Kept w w' (fun _ => False)

section
variable {a b c w w' : World} {S T : Nat → Prop}
theorem Kept.refl (w : World) (S : Nat → Prop) : Kept w w S := ⟨rfl, rfl, rfl, Nat.le_refl _, fun _ _ _ => rfl⟩
theorem Kept.trans (h : Kept a b S) (h' : Kept b c T) (hT : ∀ k, k < a.heap.size → T k → S k) : Kept a c S :=
  ⟨h'.os.trans h.os, h'.tape.trans h.tape, h'.output.trans h.output, Nat.le_trans h.size h'.size, fun k hk hS =>
    (h'.block k (Nat.lt_of_lt_of_le hk h.size) (fun ht => hS (hT k hk ht))).trans (h.block k hk hS)⟩
theorem Kept.fresh (h : Kept a b S) (h' : Fresh b c) : Kept a c S := h.trans h' (fun _ _ h => h.elim)
theorem Kept.mono (h : Kept a b T) (hT : ∀ k, k < a.heap.size → T k → S k) : Kept a b S :=
  ⟨h.os, h.tape, h.output, h.size, fun k hk hS => h.block k hk (fun ht => hS (hT k hk ht))⟩
theorem Kept.alloc (h : Kept a w S) (o : Obj) : Kept a (w.alloc o) S :=
  ⟨h.os, h.tape, h.output, Nat.le_trans h.size (by simp), fun k hk hS => (_root_.Go.heap_alloc_old w o (r := k) (Nat.lt_of_lt_of_le hk h.size)).trans (h.block k hk hS)⟩
theorem Kept.drew (h : Kept a w S) : Kept a w.drew S := ⟨h.os, h.tape, h.output, h.size, h.block⟩
theorem Kept.drewN (h : Kept a w S) (n : Nat) : Kept a (w.drewN n) S := ⟨h.os, h.tape, h.output, h.size, h.block⟩
theorem Kept.setCell (h : Kept a w S) {p : Addr} (hp : S p.block ∨ a.heap.size ≤ p.block) (u : Value) : Kept a (w.setCell p u) S :=
  ⟨h.os, h.tape, h.output, by simpa [World.setCell] using h.size, fun k hk hS => by
    rw [heap_setCell_other w p k u (by rintro rfl; rcases hp with hp | hp; · exact hS hp
                                       · omega)]
    exact h.block k hk hS⟩
theorem Kept.iterAt (h : Kept a w S) {k : Nat} (hk : S k ∨ a.heap.size ≤ k) (s : ByteArray) (pos : Nat) : Kept a (w.iterAt k s pos) S :=
  ⟨h.os, h.tape, h.output, by rw [Lib.iterAt_size]; exact h.size, fun j hj hS => by
    rw [Lib.iterAt_other _ _ _ _ _ (by rintro rfl; rcases hk with hk | hk; · exact hS hk
                                       · omega)]
    exact h.block j hj hS⟩
theorem Kept.setRow (h : Kept a w S) {g : Nat} (hg : S g ∨ a.heap.size ≤ g) (cs : Array Value) : Kept a (w.setRow g cs) S :=
  ⟨h.os, h.tape, h.output, by simpa using h.size, fun k hk hS => by
    rw [setRow_other w g k _ (by rintro rfl; rcases hg with hg | hg; · exact hS hg
                                 · omega)]
    exact h.block k hk hS⟩
theorem Kept.of_grown {row : Option Nat} (h : w.grownBy w' row) : Kept w w' (fun k => row = some k) :=
  ⟨h.os, h.tape, h.output, h.size, fun k hk hS => h.block k hk (fun e => hS e.symm)⟩
theorem Kept.of_below (h : Below w.heap.size w w') : Fresh w w' := ⟨h.os, h.tape, h.output, h.size, fun k hk _ => h.block k hk⟩
theorem Kept.below (h : Kept w w' S) (hS : ∀ k, k < w.heap.size → ¬ S k) : Below w.heap.size w w' := ⟨h.os, h.tape, h.output, h.size, fun k hk => h.block k hk (hS k hk)⟩
theorem Kept.below' (h : Fresh w w') : Below w.heap.size w w' := h.below (fun _ _ h => h)
theorem Kept.grown (h : Fresh w w') (row : Option Nat) : w.grownBy w' row := ⟨h.os, h.tape, h.output, h.size, fun k hk _ => h.block k hk (fun h => h)⟩
theorem Kept.grownRow {row : Option Nat} (h : Kept w w' S) (hS : ∀ k, S k → row = some k) : w.grownBy w' row := ⟨h.os, h.tape, h.output, h.size, fun k hk hne => h.block k hk (fun hs => hne (hS k hs).symm)⟩
theorem Kept.cell (h : Kept w w' S) {p : Addr} (hp : p.block < w.heap.size) (hS : ¬ S p.block) : w'.cell? p = w.cell? p := World.cell?_of_block (h.block p.block hp hS)
theorem Kept.frozen (h : Kept w w' S) {p : Addr} (hp : p.block < w.heap.size) (hS : ¬ S p.block) : w'.frozen? p = w.frozen? p := World.frozen?_of_block (h.block p.block hp hS)
theorem Kept.held (h : Kept w w' S) {p : Addr} {u : Value} (hc : w.cell? p = some u) (hS : ¬ S p.block) : w'.cell? p = some u := (h.cell (World.block_lt_of_cell? w p hc) hS).trans hc
end

/-- Numbers of a kind. -/
def ints (K : IntKind) (l : List Nat) : List Value := l.map fun b : Nat => Value.int K (b : Int)
theorem ints_length (K : IntKind) (l : List Nat) : (ints K l).length = l.length := by simp [ints]
theorem ints_append (K : IntKind) (l m : List Nat) : ints K (l ++ m) = ints K l ++ ints K m := by simp [ints]
theorem ints_one (K : IntKind) (l : List Nat) : ∀ u ∈ ints K l, u.oneCell' = true := by
  intro u hu
  obtain ⟨b, _, rfl⟩ := List.mem_map.1 hu
  rfl
theorem ints_get (K : IntKind) (l : List Nat) (j : Nat) (h : j < l.length) : (ints K l)[j]? = some (.int K ((l[j] : Nat) : Int)) := by simp [ints, h]

/-- Byte values. -/
abbrev u8s (l : List Nat) : List Value := ints .u8 l
theorem u8s_length (l : List Nat) : (u8s l).length = l.length := ints_length _ l
theorem u8s_append (l m : List Nat) : u8s (l ++ m) = u8s l ++ u8s m := ints_append _ l m
theorem u8s_one (l : List Nat) : ∀ u ∈ u8s l, u.oneCell' = true := ints_one _ l
theorem u8s_get (l : List Nat) (j : Nat) (h : j < l.length) : (u8s l)[j]? = some (.int .u8 ((l[j] : Nat) : Int)) := ints_get _ l j h

/-- v is a slice of numbers of a kind (type E) that a call owns (nil, or at the head of a row from block 'base' on): it holds l. -/
def RowK (K : IntKind) (E : TypeId) (base : Nat) (w : World) (v : Value) (l : List Nat) : Prop := w.ownsRow base E 1 v l.length (ints K l)

/-- The same of bytes. -/
abbrev Row (base : Nat) (w : World) (v : Value) (l : List Nat) : Prop := RowK .u8 5 base w v l

section
variable {K : IntKind} {E : TypeId}
theorem RowK.kept {base : Nat} {w w' : World} {v : Value} {l : List Nat} {S : Nat → Prop} (h : RowK K E base w v l) (hk : Kept w w' S) (hS : ∀ k, v.ownBlock = some k → ¬ S k) : RowK K E base w' v l := by
  obtain ⟨h1, h2⟩ := h
  refine ⟨h1, ?_⟩
  rcases h2 with h2 | ⟨g, cap, cur, rfl, hb, hg, rest⟩
  · exact .inl h2
  · refine .inr ⟨g, cap, cur, rfl, hb, ?_, rest⟩
    rw [hk.block g (Array.getElem?_eq_some_iff.1 hg).1 (hS g rfl)]
    exact hg
theorem RowK.fresh {base : Nat} {w w' : World} {v : Value} {l : List Nat} (h : RowK K E base w v l) (hk : Fresh w w') : RowK K E base w' v l := h.kept hk (fun _ _ h => h)
theorem RowK.lower {base base' : Nat} {w : World} {v : Value} {l : List Nat} (h : RowK K E base w v l) (hb : base' ≤ base) : RowK K E base' w v l := by
  obtain ⟨h1, h2⟩ := h
  refine ⟨h1, ?_⟩
  rcases h2 with h2 | ⟨g, cap, cur, rfl, hg, rest⟩
  · exact .inl h2
  · exact .inr ⟨g, cap, cur, rfl, by omega, rest⟩
theorem RowK.block {base : Nat} {w : World} {v : Value} {l : List Nat} (h : RowK K E base w v l) : ∀ k, v.ownBlock = some k → base ≤ k ∧ k < w.heap.size := World.ownsRow.lt h
theorem RowK.nil (base : Nat) (w : World) : RowK K E base w (.slice none 0 0) [] := World.ownsRow_nil _ _ _ _
theorem RowK.slice {base : Nat} {w : World} {v : Value} {l : List Nat} (h : RowK K E base w v l) : ∃ A c, v = .slice A l.length c := by
  rcases h.2 with ⟨rfl, h0⟩ | ⟨g, cap, cur, rfl, _⟩
  · exact ⟨none, 0, by rw [h0]⟩
  · exact ⟨_, _, rfl⟩
theorem RowK.len {base : Nat} {w : World} {A : Option Addr} {n c : Nat} {l : List Nat} (h : RowK K E base w (.slice A n c) l) : n = l.length := by
  rcases h.2 with ⟨h1, h0⟩ | ⟨g, cap, cur, h1, _⟩
  · injection h1 with _ h2 _
    omega
  · injection h1
theorem RowK.form {base : Nat} {w : World} {A : Option Addr} {n c : Nat} {l : List Nat} (h : RowK K E base w (.slice A n c) l) (hn : 0 < n) : ∃ g, A = some ⟨g, 0, none⟩ ∧ base ≤ g ∧ g < w.heap.size := by
  have hl := h.len
  subst hl
  obtain ⟨g, cap, hv, hb, hg⟩ := World.ownsRow.form h (by omega)
  injection hv with h1
  exact ⟨g, h1, hb, hg⟩
theorem RowK.cellAt {base g n c : Nat} {w : World} {l : List Nat} (h : RowK K E base w (.slice (some ⟨g, 0, none⟩) n c) l) (j : Nat) (hj : j < l.length) : w.cell? ⟨g, j, none⟩ = some (.int K ((l[j] : Nat) : Int)) := by
  have hl := h.len
  subst hl
  have h' : w.ownsRow base E 1 (.slice (some ⟨g, 0, none⟩) l.length c) l.length (ints K l) := h
  rw [h'.cellAt j (by omega)]
  exact ints_get K l j hj
theorem RowK.frozenAt {base g n c : Nat} {w : World} {l : List Nat} (h : RowK K E base w (.slice (some ⟨g, 0, none⟩) n c) l) (j : Nat) : w.frozen? ⟨g, j, none⟩ = false := by
  have hl := h.len
  subst hl
  have h' : w.ownsRow base E 1 (.slice (some ⟨g, 0, none⟩) l.length c) l.length (ints K l) := h
  exact h'.frozenAt j
theorem RowK.stored {base g n c : Nat} {w : World} {l : List Nat} (h : RowK K E base w (.slice (some ⟨g, 0, none⟩) n c) l) (j b : Nat) : RowK K E base (w.setCell ⟨g, j, none⟩ (.int K (b : Int))) (.slice (some ⟨g, 0, none⟩) n c) (l.set j b) := by
  have hl := h.len
  subst hl
  have h' : w.ownsRow base E 1 (.slice (some ⟨g, 0, none⟩) l.length c) l.length (ints K l) := h
  have h2 := (h'.stored j (.int K (b : Int))).1
  have e : (ints K l).set j (.int K (b : Int)) = ints K (l.set j b) := by unfold ints; rw [List.map_set]
  unfold RowK
  rw [e] at h2
  rw [List.length_set]
  exact h2
theorem RowK.of_own {w : World} {base g n cap m : Nat} {xs : List Value} {l : List Nat} (h : w.ownsRow base E 1 (.slice (some ⟨g, 0, none⟩) n cap) n xs) (hx : xs = ints K l) (hm : m = n) : RowK K E base w (.slice (some ⟨g, 0, none⟩) m cap) l := by
  subst hx
  subst hm
  have h1 := h.1
  rw [ints_length, Nat.mul_one] at h1
  subst h1
  exact h
end

/-- v is a slice that reads as the numbers l of a kind. -/
def BtsK (K : IntKind) (w : World) (v : Value) (l : List Nat) : Prop :=
  ∃ A c, v = .slice A l.length c ∧ l.length ≤ c ∧ c ≤ maxLen ∧ (A = none → l = [] ∧ c = 0) ∧
    ∀ ad, A = some ad → ∃ b o, ad = ⟨b, o, none⟩ ∧ b < w.heap.size ∧ ∀ j (h : j < l.length), w.cell? ⟨b, o + j, none⟩ = some (.int K ((l[j] : Nat) : Int))

/-- v is a slice that reads as the bytes l. -/
abbrev Bts (w : World) (v : Value) (l : List Nat) : Prop := BtsK .u8 w v l

theorem RowK.bts {K : IntKind} {E : TypeId} {base : Nat} {w : World} {v : Value} {l : List Nat} (h : RowK K E base w v l) : BtsK K w v l := by
  rcases h.2 with ⟨rfl, hn⟩ | ⟨g, cap, cur, rfl, hb, hg, hnc, hcm, hcs, htake⟩
  · have hl : l = [] := List.eq_nil_of_length_eq_zero hn
    subst hl
    exact ⟨none, 0, rfl, Nat.le_refl _, Nat.zero_le _, fun _ => ⟨rfl, rfl⟩, fun ad h => (by cases h)⟩
  · refine ⟨_, cap, rfl, hnc, hcm, fun h => (by cases h), fun ad hA => ?_⟩
    cases hA
    refine ⟨g, 0, rfl, (Array.getElem?_eq_some_iff.1 hg).1, fun j hj => ?_⟩
    rw [Nat.zero_add]
    exact RowK.cellAt h j hj

theorem BtsK.kept {K : IntKind} {w w' : World} {v : Value} {l : List Nat} {S : Nat → Prop} (h : BtsK K w v l) (hk : Kept w w' S) (hS : ∀ k, v.ownBlock = some k → ¬ S k) : BtsK K w' v l := by
  obtain ⟨A, c, rfl, h1, h2, h3, h4⟩ := h
  refine ⟨A, c, rfl, h1, h2, h3, fun ad hA => ?_⟩
  obtain ⟨b, o, rfl, hb, hc⟩ := h4 ad hA
  subst hA
  exact ⟨b, o, rfl, Nat.lt_of_lt_of_le hb hk.size, fun j hj => (hk.cell hb (hS b rfl)).trans (hc j hj)⟩
theorem BtsK.fresh {K : IntKind} {w w' : World} {v : Value} {l : List Nat} (h : BtsK K w v l) (hk : Fresh w w') : BtsK K w' v l := h.kept hk (fun _ _ h => h)
theorem BtsK.block {K : IntKind} {w : World} {v : Value} {l : List Nat} (h : BtsK K w v l) : ∀ k, v.ownBlock = some k → k < w.heap.size := by
  obtain ⟨A, c, rfl, h1, h2, h3, h4⟩ := h
  intro k hk
  cases A with
  | none => simp [Value.ownBlock] at hk
  | some ad =>
    obtain ⟨b, o, rfl, hb, hc⟩ := h4 ad rfl
    simp [Value.ownBlock] at hk
    omega

/-- A list of numbers below 256 as bytes. -/
def bytesOf (l : List Nat) : List UInt8 := l.map UInt8.ofNat
def strOf (l : List Nat) : ByteArray := ⟨(bytesOf l).toArray⟩

/-- 'string(b)'. -/
theorem BtsK.string {P : Program} {w : World} {v : Value} {l : List Nat} (h : Bts w v l) (hl : ∀ b ∈ l, b < 256) (src dst e : TypeId) (hs : P.underlying src = some (.slice e)) (he : P.underlying e = some (.int .u8)) (hd : P.underlying dst = some .string) :
    (convert src dst v).run P w = .ok (.string (strOf l)) w := by
  obtain ⟨A, c, rfl, h1, h2, h3, h4⟩ := h
  cases A with
  | none =>
    obtain ⟨rfl, rfl⟩ := h3 rfl
    rw [run_convert_bytes_string w src dst e _ _ _ hs he hd]
    rfl
  | some ad =>
    obtain ⟨b, o, rfl, hb, hc⟩ := h4 ad rfl
    have hlen : l.length = (bytesOf l).length := by simp [bytesOf]
    rw [hlen]
    refine run_convert_bytes_back w src dst e ⟨b, o, none⟩ c (bytesOf l) hs he hd fun j hj => ?_
    have hj' : j < l.length := by omega
    have hadd : (⟨b, o, none⟩ : Addr).add j = ⟨b, o + j, none⟩ := by unfold Addr.add; split <;> simp_all
    rw [hadd, hc j hj']
    have hlt := hl l[j] (List.getElem_mem hj')
    simp [bytesOf]
    omega


/-- The new row is the old one, or lies in a block that is new. -/
def Moved (w : World) (v v' : Value) : Prop := ∀ k, v'.ownBlock = some k → v.ownBlock = some k ∨ w.heap.size ≤ k
theorem Moved.refl (w : World) (v : Value) : Moved w v v := fun _ h => .inl h
theorem Moved.trans {a b : World} {v v' v'' : Value} (h : Moved a v v') (h' : Moved b v' v'') (hs : a.heap.size ≤ b.heap.size) : Moved a v v'' := fun k hk => by
  rcases h' k hk with h1 | h1
  · exact h k h1
  · exact .inr (by omega)

/-- A writer: the cell of block p holds a slice of bytes that the call owns; it holds l. -/
structure Wr (w : World) (base p : Nat) (v : Value) (l : List Nat) : Prop where
  cell : w.cell? ⟨p, 0, none⟩ = some v
  frz : w.frozen? ⟨p, 0, none⟩ = false
  row : Row base w v l
  ne : v.ownBlock ≠ some p

/-- What a writer's step may turn: its cell, and its row. -/
def WrS (p : Nat) (v : Value) (b : Nat) : Prop := b = p ∨ v.ownBlock = some b

theorem Wr.lt {w : World} {base p : Nat} {v : Value} {l : List Nat} (h : Wr w base p v l) : p < w.heap.size := World.block_lt_of_cell? w ⟨p, 0, none⟩ h.cell

theorem Wr.kept {w w' : World} {base p : Nat} {v : Value} {l : List Nat} {S : Nat → Prop} (h : Wr w base p v l) (hk : Kept w w' S) (hp : ¬ S p) (hv : ∀ k, v.ownBlock = some k → ¬ S k) : Wr w' base p v l :=
  ⟨(hk.cell (p := ⟨p, 0, none⟩) h.lt hp).trans h.cell, (hk.frozen (p := ⟨p, 0, none⟩) h.lt hp).trans h.frz, h.row.kept hk hv, h.ne⟩
theorem Wr.fresh {w w' : World} {base p : Nat} {v : Value} {l : List Nat} (h : Wr w base p v l) (hk : Fresh w w') : Wr w' base p v l := h.kept hk (fun h => h) (fun _ _ h => h)

/-- A writer behind one step: the row has grown in w1 (behind blocks that are new), and the cell is stored. -/
theorem Wr.step {w wa w1 : World} {base p : Nat} {v v' : Value} {l l' : List Nat} (h : Wr w base p v l) (ha : Fresh w wa) (hr : Row base w1 v' l') (hg : wa.grownBy w1 v.ownBlock) (hm : Moved wa v v') :
    Wr (w1.setCell ⟨p, 0, none⟩ v') base p v' l' ∧ Kept w (w1.setCell ⟨p, 0, none⟩ v') (WrS p v) ∧ Moved w v v' := by
  have hlt := h.lt
  have hlt' : p < wa.heap.size := Nat.lt_of_lt_of_le hlt ha.size
  have hne' : v'.ownBlock ≠ some p := fun e => by
    rcases hm p e with h1 | h1
    · exact h.ne h1
    · omega
  have hpv : ¬ v.ownBlock = some p := h.ne
  have hK1 : Kept w w1 (WrS p v) := (ha.mono (T := fun _ => False) (S := WrS p v) (fun _ _ h => h.elim)).trans (Kept.of_grown hg) (fun k _ hk => .inr hk)
  have hb1 : w1.heap[p]? = w.heap[p]? := (hg.block p hlt' (fun e => hpv e.symm)).trans (ha.block p hlt (fun h => h))
  have hc1 : w1.cell? ⟨p, 0, none⟩ = some v := (World.cell?_of_block (a := ⟨p, 0, none⟩) hb1).trans h.cell
  have hf1 : w1.frozen? ⟨p, 0, none⟩ = false := (World.frozen?_of_block (a := ⟨p, 0, none⟩) hb1).trans h.frz
  refine ⟨⟨?_, ?_, ?_, hne'⟩, hK1.setCell (.inl (.inl rfl)) _, fun k hk => ?_⟩
  · exact World.cell?_setCell_same w1 _ _ hc1
  · rw [World.frozen?_setCell]; exact hf1
  · exact hr.kept ((Kept.refl w1 (fun b => b = p)).setCell (p := ⟨p, 0, none⟩) (.inl rfl) v') (fun k hk e => hne' (by rw [hk, e]))
  · rcases hm k hk with h1 | h1
    · exact .inl h1
    · exact .inr (Nat.le_trans ha.size h1)

theorem Wr.after {w wa w1 : World} {base p : Nat} {v : Value} {l : List Nat} (h : Wr w base p v l) (ha : Fresh w wa) (hg : wa.grownBy w1 v.ownBlock) : w1.cell? ⟨p, 0, none⟩ = some v ∧ w1.frozen? ⟨p, 0, none⟩ = false := by
  have hb1 : w1.heap[p]? = w.heap[p]? := (hg.block p (Nat.lt_of_lt_of_le h.lt ha.size) (fun e => h.ne e.symm)).trans (ha.block p h.lt (fun h => h))
  exact ⟨(World.cell?_of_block (a := ⟨p, 0, none⟩) hb1).trans h.cell, (World.frozen?_of_block (a := ⟨p, 0, none⟩) hb1).trans h.frz⟩

theorem moved_of {wa : World} {v : Value} {g n cap : Nat} (h : v.ownBlock = some g ∨ g = wa.heap.size) : Moved wa v (.slice (some ⟨g, 0, none⟩) n cap) := by
  intro k hk
  simp [Value.ownBlock] at hk
  subst hk
  rcases h with h | h
  · exact .inl h
  · exact .inr (by omega)

theorem one_new (w : World) (x : Value) (t : TypeId) : ∀ j u, [x][j]? = some u → ((w.alloc (.cells #[x] t)).drew).cell? ((⟨w.heap.size, 0, none⟩ : Addr).add j) = some u := by
  intro j u hj
  match j, hj with
  | 0, hj => simp at hj; subst hj; simp [Addr.add]
  | j + 1, hj => simp at hj

/-- '&writer{}'. -/
theorem Wr.new (w : World) (T : TypeId) : Wr ((w.alloc (.cells #[] 5)).alloc (.cells #[.slice (some ⟨w.heap.size, 0, none⟩) 0 0] T)) w.heap.size (w.heap.size + 1) (.slice (some ⟨w.heap.size, 0, none⟩) 0 0) [] := by
  have hs : (w.alloc (.cells #[] 5)).heap.size = w.heap.size + 1 := by simp
  refine ⟨?_, ?_, ?_, by simp [Value.ownBlock]⟩
  · exact cell_of_row ((w.alloc (.cells #[] 5)).alloc (.cells #[.slice (some ⟨w.heap.size, 0, none⟩) 0 0] T)) (w.heap.size + 1) 0 #[.slice (some ⟨w.heap.size, 0, none⟩) 0 0] T (0, 0) (by rw [← hs]; exact heap_alloc_new _ _)
  · have hg : ((w.alloc (.cells #[] 5)).alloc (.cells #[.slice (some ⟨w.heap.size, 0, none⟩) 0 0] T)).heap[w.heap.size + 1]? = some (.cells #[.slice (some ⟨w.heap.size, 0, none⟩) 0 0] T) := by rw [← hs]; exact heap_alloc_new _ _
    simp only [World.frozen?, hg]
    rfl
  · refine ⟨rfl, .inr ⟨w.heap.size, 0, #[], rfl, Nat.le_refl _, ?_, Nat.le_refl _, Nat.zero_le _, rfl, rfl⟩⟩
    rw [_root_.Go.heap_alloc_old _ _ (r := w.heap.size) (by simp)]
    exact heap_alloc_new _ _

/-- The lower bytes of a number. -/
def leB (n k : Nat) : List Nat := (List.range k).map fun i => n / 256 ^ i % 256
theorem leB_succ (n k : Nat) : leB n (k + 1) = leB n k ++ [n / 256 ^ k % 256] := by simp [leB, List.range_succ]
theorem leB_length (n k : Nat) : (leB n k).length = k := by simp [leB]
theorem leB_lt (n k : Nat) : ∀ b ∈ leB n k, b < 256 := by
  intro b hb
  obtain ⟨i, _, rfl⟩ := List.mem_map.1 hb
  exact Nat.mod_lt _ (by decide)
end Go.Proofs.YthmopakaikhjlaaGreatDoor
