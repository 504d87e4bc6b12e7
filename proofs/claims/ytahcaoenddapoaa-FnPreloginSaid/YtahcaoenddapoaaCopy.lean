/- Blocks of bytes, and the builtin copy into one. -/
import Derived.Test.YtahcaoenddapoaaApp
import Derived.Laws.CopyOwn
import Derived.Lib.Hide
namespace Go.Proofs.Ytahcaoenddapoaa
open Go.RowKit

/-- Block g holds the bytes L. -/
def Blk (w : World) (g : Nat) (L : List Nat) : Prop := w.heap[g]? = some (.cells (u8s L).toArray 5)

theorem Blk.kept {w w' : World} {g : Nat} {L : List Nat} {S : Nat → Prop} (h : Blk w g L) (hk : Kept w w' S) (hS : ¬ S g) : Blk w' g L := by
  unfold Blk at *
  rw [hk.block g (Array.getElem?_eq_some_iff.1 h).1 hS]
  exact h
theorem Blk.fresh {w w' : World} {g : Nat} {L : List Nat} (h : Blk w g L) (hk : Fresh w w') : Blk w' g L := h.kept hk (fun h => h)
theorem Blk.lt {w : World} {g : Nat} {L : List Nat} (h : Blk w g L) : g < w.heap.size := (Array.getElem?_eq_some_iff.1 h).1
theorem Blk.frozenAt {w : World} {g : Nat} {L : List Nat} (h : Blk w g L) (j : Nat) : w.frozen? ⟨g, j, none⟩ = false := by
  unfold Blk at h
  simp only [World.frozen?, h]
  by_cases hj : (0, 0).1 ≤ j <;> simp
theorem Blk.cellAt {w : World} {g : Nat} {L : List Nat} (h : Blk w g L) (j : Nat) (hj : j < L.length) : w.cell? ⟨g, j, none⟩ = some (.int .u8 ((L[j] : Nat) : Int)) := by
  rw [cell_of_row w g j _ 5 (0, 0) h]
  simpa using u8s_get L j hj
theorem Blk.stored {w : World} {g : Nat} {L : List Nat} (h : Blk w g L) (j b : Nat) : Blk (w.setCell ⟨g, j, none⟩ (.int .u8 (b : Int))) g (L.set j b) := by
  unfold Blk at *
  rw [heap_setCell_same w g j _ 5 _ h]
  simp [ints, List.map_set]
theorem Blk.drew {w : World} {g : Nat} {L : List Nat} (h : Blk w g L) : Blk w.drew g L := h
theorem Blk.bts {w : World} {g : Nat} {L : List Nat} (h : Blk w g L) (o n c : Nat) (hn : o + n ≤ L.length) (hc : n ≤ c) (hm : c ≤ maxLen) : Bts w (.slice (some ⟨g, o, none⟩) n c) ((L.drop o).take n) := by
  have hl : ((L.drop o).take n).length = n := by simp; omega
  refine ⟨some ⟨g, o, none⟩, c, by rw [hl], by omega, hm, fun h' => (by cases h'), fun ad hA => ?_⟩
  cases hA
  refine ⟨g, o, rfl, h.lt, fun j hj => ?_⟩
  rw [hl] at hj
  rw [h.cellAt (o + j) (by omega)]
  simp

theorem u8s_splice (L cs : List Nat) (off : Nat) : splice (u8s L) off (u8s cs) = u8s (splice L off cs) := by
  simp [splice, ints, List.map_take, List.map_drop]

theorem splice_spec (L cs : List Nat) (off : Nat) : splice L off cs = L.take off ++ (cs ++ L.drop (off + cs.length)) := by
  simp [splice]

section
variable {P : Program}

theorem wp_copy (w : World) {o : Oper} {a : Act} {K : Act → World → Prop} {Q : Exit → Act → World → Prop} (d s : Operand) (dT sT : TypeId)
    (ho : o.op = .call { callee := .builtin .copy, args := #[d, s], argTypes := #[dT, sT] }) (hu : P.underlying dT = some (.slice 5)) (hsz : (P.info? 5).map (·.size) = some 1)
    (g off dLen dCap : Nat) (x : Value) (hd : a.eval d = .slice (some ⟨g, off, none⟩) dLen dCap) (hs : a.eval s = x) (m : List Nat) (hx : Bts w x m)
    (L : List Nat) (hg : Blk w g L) (hfit : off + dLen ≤ L.length) (n : Nat) (hn : n = min m.length dLen)
    (h : ∀ w', Kept w w' (fun k => k = g) → Blk w' g (splice L off (m.take dLen)) → K (a.put o.dst (goInt n)) w') : Oper.wp P o a w K Q := by
  obtain ⟨A, c, rfl, h1, h2, h3, h4⟩ := hx
  have hn' : Nat.min m.length dLen = n := hn.symm
  by_cases h0 : n = 0
  · subst h0
    have hrun := run_copy_none (P := P) w dT sT o.type 5 (some ⟨g, off, none⟩) A dLen dCap m.length c hu hsz hn'
    unfold Oper.wp
    simp [execOp, ho, resolve, invoke, builtin, hd, hs, hrun, Result.andThen]
    have hm : m.take dLen = [] := by
      have : (m.take dLen).length = 0 := by rw [List.length_take]; omega
      exact List.eq_nil_of_length_eq_zero this
    exact h w (Kept.refl _ _) (by rw [hm]; simpa [splice] using hg)
  · cases A with
    | none =>
      obtain ⟨rfl, rfl⟩ := h3 rfl
      exact absurd (by simpa using hn) h0
    | some ad =>
      obtain ⟨b, o', rfl, hb, hc⟩ := h4 ad rfl
      have hlt : (m.take dLen).length = n := by simp [List.length_take]; omega
      have hlen : (u8s (m.take dLen)).length = n := by rw [u8s_length, hlt]
      have hrun := run_copy_row (P := P) w dT sT o.type 5 g off dLen dCap ⟨b, o', none⟩ m.length c (u8s L).toArray 5 (u8s (m.take dLen)) hu hsz hg (by rw [hlen, ← hn']) (fun j v hj => by
        have hj' : j < (m.take dLen).length := by
          have := (List.getElem?_eq_some_iff.1 hj).1
          rwa [u8s_length] at this
        rw [u8s_get _ j hj'] at hj
        have hj2 : j < m.length := by omega
        have hadd : (⟨b, o', none⟩ : Addr).add j = ⟨b, o' + j, none⟩ := by unfold Addr.add; split <;> simp_all
        rw [hadd, hc j hj2, ← hj]
        simp) (by rw [hlen]; simp [ints]; omega) (u8s_one _)
      rw [hlen] at hrun
      have h5 := h _ ((Kept.refl w (fun k => k = g)).setRow (g := g) (.inl rfl) ((u8s L).toArray.toList.take off ++ u8s (m.take dLen) ++ (u8s L).toArray.toList.drop (off + n)).toArray) (by
        unfold Blk
        rw [setRow_heap w g _ _ 5 _ hg, ← u8s_splice]
        simp [splice, hlen])
      unfold Oper.wp
      simp only [execOp, ho, resolve, invoke, builtin, hd, hs, hrun, Result.andThen, Sem.run_bind, Sem.run_pure, List.map_toArray, List.map_cons, List.map_nil, Oper.upon]
      exact h5

theorem wpList_copy {ops : Array Oper} {rest : List Oper} {o : Oper} {a : Act} {w : World} {Q : Exit → Act → World → Prop} (hgd : o.guard = none) (d s : Operand) (dT sT : TypeId)
    (ho : o.op = .call { callee := .builtin .copy, args := #[d, s], argTypes := #[dT, sT] }) (hu : P.underlying dT = some (.slice 5)) (hsz : (P.info? 5).map (·.size) = some 1)
    (g off dLen dCap : Nat) (x : Value) (hd : a.eval d = .slice (some ⟨g, off, none⟩) dLen dCap) (hs : a.eval s = x) (m : List Nat) (hx : Bts w x m)
    (L : List Nat) (hg : Blk w g L) (hfit : off + dLen ≤ L.length) (n : Nat) (hn : n = min m.length dLen)
    (h : ∀ w', Kept w w' (fun k => k = g) → Blk w' g (splice L off (m.take dLen)) → wpList P ops Q rest (a.put o.dst (goInt n)) w') : wpList P ops Q (o :: rest) a w :=
  wpList_plain hgd fun _ hK => wp_copy w d s dT sT ho hu hsz g off dLen dCap x hd hs m hx L hg hfit n hn fun w' h3 h4 => hK _ _ (h w' h3 h4)

theorem step_copy {ops : Array Oper} {o : Oper} {a : Act} {w : World} {K : Act → World → Prop} {Q : Exit → Act → World → Prop} {E : Prop} (hgd : o.guard = none) (d s : Operand) (dT sT : TypeId)
    (ho : o.op = .call { callee := .builtin .copy, args := #[d, s], argTypes := #[dT, sT] }) (hu : P.underlying dT = some (.slice 5)) (hsz : (P.info? 5).map (·.size) = some 1)
    (g off dLen dCap : Nat) (x : Value) (hd : a.eval d = .slice (some ⟨g, off, none⟩) dLen dCap) (hs : a.eval s = x) (m : List Nat) (hx : Bts w x m)
    (L : List Nat) (hg : Blk w g L) (hfit : off + dLen ≤ L.length) (n : Nat) (hn : n = min m.length dLen)
    (h : ∀ w', Kept w w' (fun k => k = g) → Blk w' g (splice L off (m.take dLen)) → K (a.put o.dst (goInt n)) w') :
    if Region.wanted o (yielded ops a.tmps) = true then Oper.wp P o a w K Q else E := by
  have hw : Region.wanted o (yielded ops a.tmps) = true := by simp [Region.wanted, hgd]
  rw [if_pos hw]
  exact wp_copy w d s dT sT ho hu hsz g off dLen dCap x hd hs m hx L hg hfit n hn h
end
end Go.Proofs.Ytahcaoenddapoaa
