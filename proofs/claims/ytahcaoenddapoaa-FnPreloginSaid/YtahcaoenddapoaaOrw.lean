/- Rows of structs of two cells, a number and a slice. -/
import Derived.Test.YtahcaoenddapoaaPut
import Derived.Test.YtahcaoenddapoaaApp
import Derived.Test.YtahcaoenddapoaaStp2
namespace Go.Proofs.Ytahcaoenddapoaa
open Go.RowKit

/-- The cells of such a row. -/
def cellsO : List (Nat × Value) → List Value
  | [] => []
  | x :: l => .int .i64 (x.1 : Int) :: x.2 :: cellsO l

theorem cellsO_length : ∀ l, (cellsO l).length = l.length * 2
  | [] => rfl
  | x :: l => by simp only [cellsO, List.length_cons, cellsO_length l]; omega
theorem cellsO_append : ∀ l m, cellsO (l ++ m) = cellsO l ++ cellsO m
  | [], m => rfl
  | x :: l, m => by simp only [List.cons_append, cellsO, cellsO_append l m]
theorem cellsO_get0 : ∀ (l : List (Nat × Value)) (i : Nat) (h : i < l.length), (cellsO l)[i * 2]? = some (.int .i64 (l[i].1 : Int))
  | x :: l, 0, _ => rfl
  | x :: l, i + 1, h => by
    have h1 := cellsO_get0 l i (by simpa using h)
    have e : (i + 1) * 2 = i * 2 + 2 := by omega
    rw [e]
    simpa [cellsO] using h1
theorem cellsO_get1 : ∀ (l : List (Nat × Value)) (i : Nat) (h : i < l.length), (cellsO l)[i * 2 + 1]? = some l[i].2
  | x :: l, 0, _ => rfl
  | x :: l, i + 1, h => by
    have h1 := cellsO_get1 l i (by simpa using h)
    have e : (i + 1) * 2 + 1 = i * 2 + 1 + 2 := by omega
    rw [e]
    simpa [cellsO] using h1
theorem cellsO_set : ∀ (l : List (Nat × Value)) (i : Nat) (x : Nat × Value), ((cellsO l).set (i * 2) (.int .i64 (x.1 : Int))).set (i * 2 + 1) x.2 = cellsO (l.set i x)
  | [], _, _ => rfl
  | y :: l, 0, x => rfl
  | y :: l, i + 1, x => by
    have h1 := cellsO_set l i x
    have e : (i + 1) * 2 = i * 2 + 1 + 1 := by omega
    have e' : (i + 1) * 2 + 1 = i * 2 + 1 + 1 + 1 := by omega
    rw [e', e]
    simp only [cellsO, List.set_cons_succ, h1]

/-- v is a row of such structs that lies from base on. -/
def RowO (E : TypeId) (base : Nat) (w : World) (v : Value) (l : List (Nat × Value)) : Prop := w.ownsRow base E 2 v l.length (cellsO l)

section
variable {E : TypeId} {base : Nat} {w w' : World} {v : Value} {l : List (Nat × Value)}
theorem RowO.nil (E : TypeId) (base : Nat) (w : World) : RowO E base w (.slice none 0 0) [] := World.ownsRow_nil _ _ _ _
theorem RowO.block (h : RowO E base w v l) : ∀ k, v.ownBlock = some k → base ≤ k ∧ k < w.heap.size := World.ownsRow.lt h
theorem RowO.kept {S : Nat → Prop} (h : RowO E base w v l) (hk : Kept w w' S) (hS : ∀ k, v.ownBlock = some k → ¬ S k) : RowO E base w' v l := by
  unfold RowO at h ⊢
  refine ⟨h.1, ?_⟩
  rcases h.2 with h0 | ⟨g, cap, cur, rfl, hb, hg, rest⟩
  · exact .inl h0
  · exact .inr ⟨g, cap, cur, rfl, hb, (hk.block g (Array.getElem?_eq_some_iff.1 hg).1 (hS g rfl)).trans hg, rest⟩
theorem RowO.fresh (h : RowO E base w v l) (hk : Fresh w w') : RowO E base w' v l := h.kept hk (fun _ _ h => h)
theorem RowO.slice (h : RowO E base w v l) : ∃ A c, v = .slice A l.length c := by
  rcases h.2 with ⟨rfl, h0⟩ | ⟨g, cap, cur, rfl, _⟩
  · exact ⟨none, 0, by rw [h0]⟩
  · exact ⟨_, _, rfl⟩
theorem RowO.form (h : RowO E base w v l) (hn : 0 < l.length) : ∃ g c, v = .slice (some ⟨g, 0, none⟩) l.length c ∧ base ≤ g ∧ g < w.heap.size := by
  obtain ⟨g, cap, hv, hb, hg⟩ := World.ownsRow.form h hn
  exact ⟨g, cap, hv, hb, hg⟩
theorem RowO.cell0 {g n c : Nat} (h : RowO E base w (.slice (some ⟨g, 0, none⟩) n c) l) (hn : l.length = n) (i : Nat) (hi : i < l.length) : w.cell? ⟨g, i * 2, none⟩ = some (.int .i64 (l[i].1 : Int)) := by
  subst hn
  rw [World.ownsRow.cellAt h (i * 2) (by omega)]
  exact cellsO_get0 l i hi
theorem RowO.cell1 {g n c : Nat} (h : RowO E base w (.slice (some ⟨g, 0, none⟩) n c) l) (hn : l.length = n) (i : Nat) (hi : i < l.length) : w.cell? ⟨g, i * 2 + 1, none⟩ = some l[i].2 := by
  subst hn
  rw [World.ownsRow.cellAt h (i * 2 + 1) (by omega)]
  exact cellsO_get1 l i hi
theorem RowO.frozenAt {g n c : Nat} (h : RowO E base w (.slice (some ⟨g, 0, none⟩) n c) l) (hn : l.length = n) (i : Nat) : w.frozen? ⟨g, i, none⟩ = false := by
  subst hn
  exact World.ownsRow.frozenAt h i
theorem RowO.stored {g n c : Nat} (h : RowO E base w (.slice (some ⟨g, 0, none⟩) n c) l) (hn : l.length = n) (i : Nat) (x : Nat × Value) : RowO E base ((w.setCell ⟨g, i * 2, none⟩ (.int .i64 (x.1 : Int))).setCell ⟨g, i * 2 + 1, none⟩ x.2) (.slice (some ⟨g, 0, none⟩) n c) (l.set i x) := by
  subst hn
  have h1 := (World.ownsRow.stored h (i * 2) (.int .i64 (x.1 : Int))).1
  have h2 := (World.ownsRow.stored h1 (i * 2 + 1) x.2).1
  rw [cellsO_set] at h2
  unfold RowO
  rw [List.length_set]
  exact h2
end

section
variable {P : Program} (w : World)
theorem wp_append_opt {o : Oper} {a : Act} {K : Act → World → Prop} {Q : Exit → Act → World → Prop} (s y : Operand) (t : TypeId)
    (ho : o.op = .call { callee := .builtin .append, args := #[s, y], argTypes := #[t, t] })
    (E : TypeId) (base : Nat) (i : TypeInfo) (z : Value) (bytes : Nat) (h1 : P.underlying t = some (.slice E)) (hi : P.info? E = some i) (hz : i.zero = some z) (hzs : z.cells.size = 2)
    (hsize : i.size = 2) (hby : i.bytes = bytes) (v : Value) (hs : a.eval s = v) (l : List (Nat × Value)) (hr : RowO E base w v l) (q c : Nat) (x : Nat × Value) (hy : a.eval y = .slice (some ⟨q, 0, none⟩) 1 c)
    (c0 : w.cell? ⟨q, 0, none⟩ = some (.int .i64 (x.1 : Int))) (c1 : w.cell? ⟨q, 1, none⟩ = some x.2) (hx1 : x.2.oneCell' = true) (hlen : l.length ≤ 1000) (hbytes : bytes ≤ 1000) (hbase : base ≤ w.heap.size)
    (h : ∀ A' c' w', RowO E base w' (.slice A' (l.length + 1) c') (l ++ [x]) → w.grownBy w' v.ownBlock → Moved w v (.slice A' (l.length + 1) c') → K (a.put o.dst (.slice A' (l.length + 1) c')) w') : o.wp P a w K Q := by
  obtain ⟨v', w', hrun, h3, h4, _, h5⟩ := run_append_own_at (P := P) w base t o.type E i z 2 bytes h1 hi hz hsize hby hzs (by decide) v l.length (cellsO l) hr ⟨q, 0, none⟩ 1 c [.int .i64 (x.1 : Int), x.2] rfl
    (fun j u hu => by
      match j, hu with
      | 0, hu => cases hu; exact c0
      | 1, hu => cases hu; exact c1
      | j + 2, hu => simp at hu) (fun u hu => by
      simp at hu
      rcases hu with rfl | rfl
      · rfl
      · exact hx1) (by unfold maxLen; omega) (by
      have h1 : (l.length + 1) * bytes ≤ 1001 * 1000 := Nat.mul_le_mul (by omega) hbytes
      omega) hbase
  have h3' : RowO E base w' v' (l ++ [x]) := by
    show w'.ownsRow base E 2 v' (l ++ [x]).length (cellsO (l ++ [x]))
    rw [cellsO_append, List.length_append]
    exact h3
  unfold Oper.wp execOp
  simp only [ho, resolve, invoke, builtin, Sem.run_bind, Sem.run_pure, Result.andThen_ok, List.map_toArray, List.map_cons, List.map_nil, hs, hy, hrun]
  obtain ⟨A', c', e⟩ := h3'.slice
  rw [List.length_append, List.length_singleton] at e
  subst e
  refine h A' c' w' h3' h4 (fun k hk => ?_)
  rcases h5 with h5 | h5
  · exact .inl (by rw [← h5]; exact hk)
  · rw [h5] at hk
    injection hk with hk
    exact .inr (by omega)

theorem wpList_append_opt {ops : Array Oper} {rest : List Oper} {o : Oper} {a : Act} {Q : Exit → Act → World → Prop} (hgd : o.guard = none) (s y : Operand) (t : TypeId)
    (ho : o.op = .call { callee := .builtin .append, args := #[s, y], argTypes := #[t, t] })
    (E : TypeId) (base : Nat) (i : TypeInfo) (z : Value) (bytes : Nat) (h1 : P.underlying t = some (.slice E)) (hi : P.info? E = some i) (hz : i.zero = some z) (hzs : z.cells.size = 2)
    (hsize : i.size = 2) (hby : i.bytes = bytes) (v : Value) (hs : a.eval s = v) (l : List (Nat × Value)) (hr : RowO E base w v l) (q c : Nat) (x : Nat × Value) (hy : a.eval y = .slice (some ⟨q, 0, none⟩) 1 c)
    (c0 : w.cell? ⟨q, 0, none⟩ = some (.int .i64 (x.1 : Int))) (c1 : w.cell? ⟨q, 1, none⟩ = some x.2) (hx1 : x.2.oneCell' = true) (hlen : l.length ≤ 1000) (hbytes : bytes ≤ 1000) (hbase : base ≤ w.heap.size)
    (h : ∀ A' c' w', RowO E base w' (.slice A' (l.length + 1) c') (l ++ [x]) → w.grownBy w' v.ownBlock → Moved w v (.slice A' (l.length + 1) c') → wpList P ops Q rest (a.put o.dst (.slice A' (l.length + 1) c')) w') : wpList P ops Q (o :: rest) a w :=
  wpList_plain hgd fun _ hK => wp_append_opt w s y t ho E base i z bytes h1 hi hz hzs hsize hby v hs l hr q c x hy c0 c1 hx1 hlen hbytes hbase fun A' c' w' h3 h4 h5 => hK _ _ (h A' c' w' h3 h4 h5)
end
theorem info61 : (Try.prog.info? 61).map (fun i => (i.zero, i.size, i.bytes)) = some (some (.agg #[.int .i64 0, .slice none 0 0]), 2, 32) := by kernel_rfl
theorem info104 : (Try.prog.info? 104).map (fun i => (i.zero, i.size, i.bytes)) = some (some (.agg #[.int .i64 0, .slice none 0 0]), 2, 32) := by kernel_rfl
end Go.Proofs.Ytahcaoenddapoaa
