/- append of a slice that reads as bytes onto a row of bytes that the call owns: at a plain region's list, and at a step of a region that draws its order. No program in sight. -/
import Derived.Test.YthmopakaikhjlaaGreatDoorMem
import Derived.Maps.AppendAt
import Derived.Deep.AppendLies
import Derived.RegionTactic
import Derived.OwnWalk
namespace Go.Proofs.YthmopakaikhjlaaGreatDoor
open Go.RowKit

section
variable {P : Program} (w : World)

theorem run_append_types (t1 t2 ty e : TypeId) (i : TypeInfo) (h1 : P.underlying t1 = some (.slice e)) (h2 : P.underlying t2 = some (.slice e)) (hi : P.info? e = some i) (A : Option Addr) (n c : Nat) (x : Value) :
    (Builtin.append_ #[t1, t2] ty #[.slice A n c, x]).run P w = (Builtin.append_ #[t1, t1] ty #[.slice A n c, x]).run P w := by
  simp [Builtin.append_, run_underlying h1, run_underlying h2, sizeOf, typeInfo, hi]

theorem run_append_btsK (K : IntKind) (E : TypeId) (y : Nat) (base : Nat) (t1 t2 ty : TypeId) (i : TypeInfo) (h1 : P.underlying t1 = some (.slice E)) (h2 : P.underlying t2 = some (.slice E)) (hi : P.info? E = some i) (hz : i.zero = some (.int K 0))
    (hsize : i.size = 1) (hby : i.bytes = y) (v x : Value) (l m : List Nat) (hr : RowK K E base w v l) (hx : BtsK K w x m) (hlen : l.length + m.length ≤ 140737488355328) (hlen2 : (l.length + m.length) * y ≤ 140737488355328) (hbase : base ≤ w.heap.size) :
    ∃ v' w', (Builtin.append_ #[t1, t2] ty #[v, x]).run P w = .ok v' w' ∧ RowK K E base w' v' (l ++ m) ∧ w.grownBy w' v.ownBlock ∧ Moved w v v' := by
  have hty : (Builtin.append_ #[t1, t2] ty #[v, x]).run P w = (Builtin.append_ #[t1, t1] ty #[v, x]).run P w := by
    obtain ⟨A, c, rfl⟩ := hr.slice
    exact run_append_types w t1 t2 ty E i h1 h2 hi A _ c x
  rw [hty]
  clear hty
  obtain ⟨A, c, rfl, q1, q2, q3, q4⟩ := hx
  cases A with
  | none =>
    obtain ⟨rfl, rfl⟩ := q3 rfl
    refine ⟨v, w, ?_, by simpa using hr, World.grownBy.refl w _, Moved.refl w v⟩
    rcases hr.2 with ⟨rfl, h0⟩ | ⟨g, cap, cur, rfl, _, _, hnc, _⟩
    · simp [Builtin.append_, run_underlying h1, sizeOf, typeInfo, hi, Builtin.lenOf, Builtin.firstCells]
    · simp [Builtin.append_, run_underlying h1, sizeOf, typeInfo, hi, Builtin.lenOf, Builtin.firstCells, hnc, storeCells]
  | some ad =>
    obtain ⟨b, o, rfl, hb, hc⟩ := q4 ad rfl
    have hnews : ∀ j u, (ints K m)[j]? = some u → w.cell? ((⟨b, o, none⟩ : Addr).add j) = some u := by
      intro j u hu
      have hj : j < m.length := by
        have := (List.getElem?_eq_some_iff.1 hu).1
        rwa [ints_length] at this
      rw [ints_get K m j hj] at hu
      have hadd : (⟨b, o, none⟩ : Addr).add j = ⟨b, o + j, none⟩ := by unfold Addr.add; split <;> simp_all
      rw [hadd, hc j hj, hu]
    obtain ⟨v', w', hrun, h3, h4, _, h5⟩ := run_append_own_at (P := P) w base t1 ty E i (.int K 0) 1 y h1 hi hz hsize hby rfl (by decide) v l.length (ints K l) hr ⟨b, o, none⟩ m.length c (ints K m) (by rw [ints_length, Nat.mul_one]) hnews (ints_one K m)
      (by unfold maxLen; omega) hlen2 hbase
    refine ⟨v', w', hrun, ?_, h4, fun k hk => ?_⟩
    · show w'.ownsRow base E 1 v' (l ++ m).length (ints K (l ++ m))
      rw [ints_append, List.length_append]
      exact h3
    · rcases h5 with h5 | h5
      · exact .inl (by rw [← h5]; exact hk)
      · rw [h5] at hk
        injection hk with hk
        exact .inr (by omega)

theorem wp_append_btsK {o : Oper} {a : Act} {K : Act → World → Prop} {Q : Exit → Act → World → Prop} (s y : Operand) (t1 t2 : TypeId)
    (ho : o.op = .call { callee := .builtin .append, args := #[s, y], argTypes := #[t1, t2] })
    (kd : IntKind) (et : TypeId) (z : Nat) (base : Nat) (i : TypeInfo) (h1 : P.underlying t1 = some (.slice et)) (h2 : P.underlying t2 = some (.slice et)) (hi : P.info? et = some i) (hz : i.zero = some (.int kd 0))
    (hsize : i.size = 1) (hby : i.bytes = z) (v x : Value) (hs : a.eval s = v) (hy : a.eval y = x) (l m : List Nat) (hr : RowK kd et base w v l) (hx : BtsK kd w x m) (hlen : l.length + m.length ≤ 140737488355328) (hlen2 : (l.length + m.length) * z ≤ 140737488355328) (hbase : base ≤ w.heap.size)
    (h : ∀ A' c' w', RowK kd et base w' (.slice A' (l.length + m.length) c') (l ++ m) → w.grownBy w' v.ownBlock → Moved w v (.slice A' (l.length + m.length) c') → K (a.put o.dst (.slice A' (l.length + m.length) c')) w') : o.wp P a w K Q := by
  obtain ⟨v', w', hrun, h3, h4, h5⟩ := run_append_btsK (P := P) w kd et z base t1 t2 o.type i h1 h2 hi hz hsize hby v x l m hr hx hlen hlen2 hbase
  unfold Oper.wp execOp
  simp only [ho, resolve, invoke, builtin, Sem.run_bind, Sem.run_pure, Result.andThen_ok, List.map_toArray, List.map_cons, List.map_nil, hs, hy, hrun]
  obtain ⟨A', c', e⟩ := h3.slice
  rw [List.length_append] at e
  subst e
  exact h A' c' w' h3 h4 h5

theorem wpList_append_btsK {ops : Array Oper} {rest : List Oper} {o : Oper} {a : Act} {Q : Exit → Act → World → Prop} (hgd : o.guard = none) (s y : Operand) (t1 t2 : TypeId)
    (ho : o.op = .call { callee := .builtin .append, args := #[s, y], argTypes := #[t1, t2] })
    (kd : IntKind) (et : TypeId) (z : Nat) (base : Nat) (i : TypeInfo) (h1 : P.underlying t1 = some (.slice et)) (h2 : P.underlying t2 = some (.slice et)) (hi : P.info? et = some i) (hz : i.zero = some (.int kd 0))
    (hsize : i.size = 1) (hby : i.bytes = z) (v x : Value) (hs : a.eval s = v) (hy : a.eval y = x) (l m : List Nat) (hr : RowK kd et base w v l) (hx : BtsK kd w x m) (hlen : l.length + m.length ≤ 140737488355328) (hlen2 : (l.length + m.length) * z ≤ 140737488355328) (hbase : base ≤ w.heap.size)
    (h : ∀ A' c' w', RowK kd et base w' (.slice A' (l.length + m.length) c') (l ++ m) → w.grownBy w' v.ownBlock → Moved w v (.slice A' (l.length + m.length) c') → wpList P ops Q rest (a.put o.dst (.slice A' (l.length + m.length) c')) w') : wpList P ops Q (o :: rest) a w :=
  wpList_plain hgd fun _ hK => wp_append_btsK w s y t1 t2 ho kd et z base i h1 h2 hi hz hsize hby v x hs hy l m hr hx hlen hlen2 hbase fun A' c' w' h3 h4 h5 => hK _ _ (h A' c' w' h3 h4 h5)

theorem step_append_btsK {ops : Array Oper} {o : Oper} {a : Act} {K : Act → World → Prop} {Q : Exit → Act → World → Prop} {E : Prop} (hgd : o.guard = none) (s y : Operand) (t1 t2 : TypeId)
    (ho : o.op = .call { callee := .builtin .append, args := #[s, y], argTypes := #[t1, t2] })
    (kd : IntKind) (et : TypeId) (z : Nat) (base : Nat) (i : TypeInfo) (h1 : P.underlying t1 = some (.slice et)) (h2 : P.underlying t2 = some (.slice et)) (hi : P.info? et = some i) (hz : i.zero = some (.int kd 0))
    (hsize : i.size = 1) (hby : i.bytes = z) (v x : Value) (hs : a.eval s = v) (hy : a.eval y = x) (l m : List Nat) (hr : RowK kd et base w v l) (hx : BtsK kd w x m) (hlen : l.length + m.length ≤ 140737488355328) (hlen2 : (l.length + m.length) * z ≤ 140737488355328) (hbase : base ≤ w.heap.size)
    (h : ∀ A' c' w', RowK kd et base w' (.slice A' (l.length + m.length) c') (l ++ m) → w.grownBy w' v.ownBlock → Moved w v (.slice A' (l.length + m.length) c') → K (a.put o.dst (.slice A' (l.length + m.length) c')) w') :
    if Region.wanted o (yielded ops a.tmps) = true then Oper.wp P o a w K Q else E := by
  have hw : Region.wanted o (yielded ops a.tmps) = true := by simp [Region.wanted, hgd]
  rw [if_pos hw]
  exact wp_append_btsK w s y t1 t2 ho kd et z base i h1 h2 hi hz hsize hby v x hs hy l m hr hx hlen hlen2 hbase h

theorem run_append_bts (base : Nat) (t1 t2 ty : TypeId) (i : TypeInfo) (h1 : P.underlying t1 = some (.slice 5)) (h2 : P.underlying t2 = some (.slice 5)) (hi : P.info? 5 = some i) (hz : i.zero = some (.int .u8 0))
    (hsize : i.size = 1) (hby : i.bytes = 1) (v x : Value) (l m : List Nat) (hr : Row base w v l) (hx : Bts w x m) (hlen : l.length + m.length ≤ 140737488355328) (hbase : base ≤ w.heap.size) :
    ∃ v' w', (Builtin.append_ #[t1, t2] ty #[v, x]).run P w = .ok v' w' ∧ Row base w' v' (l ++ m) ∧ w.grownBy w' v.ownBlock ∧ Moved w v v' :=
  run_append_btsK w .u8 5 1 base t1 t2 ty i h1 h2 hi hz hsize hby v x l m hr hx hlen (by omega) hbase

theorem wp_append_bts {o : Oper} {a : Act} {K : Act → World → Prop} {Q : Exit → Act → World → Prop} (s y : Operand) (t1 t2 : TypeId)
    (ho : o.op = .call { callee := .builtin .append, args := #[s, y], argTypes := #[t1, t2] })
    (base : Nat) (i : TypeInfo) (h1 : P.underlying t1 = some (.slice 5)) (h2 : P.underlying t2 = some (.slice 5)) (hi : P.info? 5 = some i) (hz : i.zero = some (.int .u8 0))
    (hsize : i.size = 1) (hby : i.bytes = 1) (v x : Value) (hs : a.eval s = v) (hy : a.eval y = x) (l m : List Nat) (hr : Row base w v l) (hx : Bts w x m) (hlen : l.length + m.length ≤ 140737488355328) (hbase : base ≤ w.heap.size)
    (h : ∀ A' c' w', Row base w' (.slice A' (l.length + m.length) c') (l ++ m) → w.grownBy w' v.ownBlock → Moved w v (.slice A' (l.length + m.length) c') → K (a.put o.dst (.slice A' (l.length + m.length) c')) w') : o.wp P a w K Q := by
  obtain ⟨v', w', hrun, h3, h4, h5⟩ := run_append_bts (P := P) w base t1 t2 o.type i h1 h2 hi hz hsize hby v x l m hr hx hlen hbase
  unfold Oper.wp execOp
  simp only [ho, resolve, invoke, builtin, Sem.run_bind, Sem.run_pure, Result.andThen_ok, List.map_toArray, List.map_cons, List.map_nil, hs, hy, hrun]
  obtain ⟨A', c', e⟩ := h3.slice
  rw [List.length_append] at e
  subst e
  exact h A' c' w' h3 h4 h5

theorem wpList_append_bts {ops : Array Oper} {rest : List Oper} {o : Oper} {a : Act} {Q : Exit → Act → World → Prop} (hgd : o.guard = none) (s y : Operand) (t1 t2 : TypeId)
    (ho : o.op = .call { callee := .builtin .append, args := #[s, y], argTypes := #[t1, t2] })
    (base : Nat) (i : TypeInfo) (h1 : P.underlying t1 = some (.slice 5)) (h2 : P.underlying t2 = some (.slice 5)) (hi : P.info? 5 = some i) (hz : i.zero = some (.int .u8 0))
    (hsize : i.size = 1) (hby : i.bytes = 1) (v x : Value) (hs : a.eval s = v) (hy : a.eval y = x) (l m : List Nat) (hr : Row base w v l) (hx : Bts w x m) (hlen : l.length + m.length ≤ 140737488355328) (hbase : base ≤ w.heap.size)
    (h : ∀ A' c' w', Row base w' (.slice A' (l.length + m.length) c') (l ++ m) → w.grownBy w' v.ownBlock → Moved w v (.slice A' (l.length + m.length) c') → wpList P ops Q rest (a.put o.dst (.slice A' (l.length + m.length) c')) w') : wpList P ops Q (o :: rest) a w :=
  wpList_plain hgd fun _ hK => wp_append_bts w s y t1 t2 ho base i h1 h2 hi hz hsize hby v x hs hy l m hr hx hlen hbase fun A' c' w' h3 h4 h5 => hK _ _ (h A' c' w' h3 h4 h5)

theorem step_append_bts {ops : Array Oper} {o : Oper} {a : Act} {K : Act → World → Prop} {Q : Exit → Act → World → Prop} {E : Prop} (hgd : o.guard = none) (s y : Operand) (t1 t2 : TypeId)
    (ho : o.op = .call { callee := .builtin .append, args := #[s, y], argTypes := #[t1, t2] })
    (base : Nat) (i : TypeInfo) (h1 : P.underlying t1 = some (.slice 5)) (h2 : P.underlying t2 = some (.slice 5)) (hi : P.info? 5 = some i) (hz : i.zero = some (.int .u8 0))
    (hsize : i.size = 1) (hby : i.bytes = 1) (v x : Value) (hs : a.eval s = v) (hy : a.eval y = x) (l m : List Nat) (hr : Row base w v l) (hx : Bts w x m) (hlen : l.length + m.length ≤ 140737488355328) (hbase : base ≤ w.heap.size)
    (h : ∀ A' c' w', Row base w' (.slice A' (l.length + m.length) c') (l ++ m) → w.grownBy w' v.ownBlock → Moved w v (.slice A' (l.length + m.length) c') → K (a.put o.dst (.slice A' (l.length + m.length) c')) w') :
    if Region.wanted o (yielded ops a.tmps) = true then Oper.wp P o a w K Q else E := by
  have hw : Region.wanted o (yielded ops a.tmps) = true := by simp [Region.wanted, hgd]
  rw [if_pos hw]
  exact wp_append_bts w s y t1 t2 ho base i h1 h2 hi hz hsize hby v x hs hy l m hr hx hlen hbase h

end
end Go.Proofs.YthmopakaikhjlaaGreatDoor
