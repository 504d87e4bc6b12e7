/- A map from bytes to slices that the program makes: what it holds, as a list of pairs. Ranging over such a map: the keys that have come, in whatever order. 'm[k] = v' at the operation. -/
import Derived.Test.YtahcaoenddapoaaMem
import Derived.Maps.OwnSet
import Derived.Maps.RangeWalk
import Derived.Carry
namespace Go.Proofs.Ytahcaoenddapoaa
section
open Go.RowKit Go.Maps

/-- An element reads as itself. -/
def R1 (v : Value) : Option (DataW Value × List MemPlace) := some (.held v, [])

/-- The key k. -/
abbrev kl8 (k : Nat) : Lit := .int .u8 (k : Int)

theorem wf8 {k : Nat} (h : k < 256) : (Lit.int .u8 (k : Int)).wf = true := by
  have e1 : IntKind.u8.min = 0 := rfl
  have e2 : IntKind.u8.max = 255 := rfl
  simp [Lit.wf, e1, e2]
  omega

section
variable {P : Program} {kt : TypeId}
/-- The map in block b holds the pairs M (keys below 256, no key twice). -/
def MapIs (P : Program) (kt : TypeId) (w : World) (b : Nat) (M : List (Nat × Value)) : Prop :=
  ∃ n D, n ≤ M.length ∧ w.ownsMap P kt R1 b n D ∧ Tidy D ∧ size D = M.length ∧ (∀ p ∈ M, p.1 < 256) ∧
    (∀ k, k < 256 → has D (kl8 k) = (M.lookup k).isSome) ∧ (∀ k v, k < 256 → M.lookup k = some v → ∀ z, D.atKey (kl8 k) z = .held v)

theorem MapIs.new (P : Program) (kt : TypeId) (w : World) : MapIs P kt (w.alloc (.map #[] 0)) w.heap.size [] :=
  ⟨0, .map [], Nat.le_refl _, World.ownsMap_made w P kt R1, tidy_empty, rfl, (fun _ h => by cases h), fun _ _ => rfl, (fun _ _ _ h => by cases h)⟩

theorem MapIs.kept {w w' : World} {b : Nat} {M : List (Nat × Value)} {S : Nat → Prop} (h : MapIs P kt w b M) (hk : Kept w w' S) (hS : ¬ S b) : MapIs P kt w' b M := by
  obtain ⟨n, D, h1, h2, h3⟩ := h
  refine ⟨n, D, h1, ?_, h3⟩
  obtain ⟨es, clock, hb, F, hs, hD⟩ := h2
  exact ⟨es, clock, (hk.block b (Array.getElem?_eq_some_iff.1 hb).1 hS).trans hb, F, hs, hD⟩
theorem MapIs.lt {w : World} {b : Nat} {M : List (Nat × Value)} (h : MapIs P kt w b M) : b < w.heap.size := by
  obtain ⟨n, D, h1, h2, h3⟩ := h
  exact h2.lt
theorem MapIs.fresh {w w' : World} {b : Nat} {M : List (Nat × Value)} (h : MapIs P kt w b M) (hk : Fresh w w') : MapIs P kt w' b M := h.kept hk (fun h => h)

theorem lookup_snoc {α : Type} (M : List (Nat × α)) (k j : Nat) (v : α) (h : M.lookup k = none) : (M ++ [(k, v)]).lookup j = if j = k then some v else M.lookup j := by
  induction M with
  | nil =>
    simp only [List.nil_append, List.lookup]
    by_cases hj : j = k
    · subst hj; simp
    · have : (j == k) = false := by simpa using hj
      rw [this, if_neg hj]
  | cons p M ih =>
    simp only [List.cons_append, List.lookup] at h ⊢
    by_cases hp : j = p.1
    · have hb : (j == p.1) = true := by simpa using hp
      rw [hb]
      by_cases hj : j = k
      · subst hj
        rw [hb] at h
        cases h
      · rw [if_neg hj]
    · have hb : (j == p.1) = false := by simpa using hp
      rw [hb]
      refine ih ?_
      cases hkp : (k == p.1) with
      | true => rw [hkp] at h; cases h
      | false => rw [hkp] at h; exact h

theorem kl8_ne {j k : Nat} (h : j ≠ k) : kl8 j ≠ kl8 k := fun e => h (by injection e with _ e2; omega)

/-- 'm[k] = v' at a key that is not there. -/
theorem MapIs.put {t e : TypeId} {w : World} {b : Nat} {M : List (Nat × Value)} (h : MapIs P kt w b M) (hk5 : P.underlying kt = some (.int .u8)) (ht : P.underlying t = some (.map kt e)) (hM : M.length ≤ 1000) (k : Nat) (hk : k < 256) (v : Value) (hno : M.lookup k = none) :
    ∃ w', (Instr.mapUpdate t (.map (some b)) (.int .u8 (k : Int)) v).run P w = .ok () w' ∧ MapIs P kt w' b (M ++ [(k, v)]) ∧ Kept w w' (fun j => j = b) := by
  obtain ⟨n, D, h1, h2, h3, h4, h5, h6, h7⟩ := h
  have hkey : keyOf P kt (.int .u8 (k : Int)) = some (kl8 k) := keyOf_int_mk hk5 (wf8 hk)
  have hiskey : WideAt.IsKeyLit (kl8 k) := trivial
  obtain ⟨w', hrun, hown, hgr⟩ := h2.update (int_keyed hk5) ht (by unfold maxLen; omega) hkey (rfl : R1 v = some (.held v, []))
  refine ⟨w', hrun, ⟨n + 1, D.put (kl8 k) (.held v), by simp; omega, hown, h3.put hiskey _, ?_, ?_, ?_, ?_⟩, (Kept.of_grown hgr).mono (fun j _ hj => by injection hj with hj; exact hj.symm)⟩
  · rw [size_put h3, h6 k hk, hno, h4]
    simp
  · intro p hp
    rcases List.mem_append.1 hp with hp | hp
    · exact h5 p hp
    · simp at hp
      subst hp
      exact hk
  · intro j hj
    rw [lookup_snoc M k j v hno]
    by_cases hjk : j = k
    · subst hjk
      rw [if_pos rfl, has_put_same h3.isMap hiskey]
      rfl
    · rw [if_neg hjk, has_put_other (kl8_ne hjk), h6 j hj]
  · intro j u hj hu z
    rw [lookup_snoc M k j v hno] at hu
    by_cases hjk : j = k
    · subst hjk
      rw [if_pos rfl] at hu
      injection hu with hu
      subst hu
      exact atKey_put_same h3.isMap hiskey _ _
    · rw [if_neg hjk] at hu
      rw [atKey_put_other (kl8_ne hjk)]
      exact h7 j u hj hu z
end
end

section
open Go.RowKit Go.Maps

section
variable {P : Program} {kt : TypeId}
/-- The range r over the map b (the pairs M): the keys 'got' have come. -/
def Rng (P : Program) (kt : TypeId) (w : World) (b r : Nat) (M : List (Nat × Value)) (got : List Nat) : Prop :=
  ∃ n D left cnt, w.ranges P kt R1 b r n D left cnt ∧ (∀ k, k < 256 → has D (kl8 k) = (M.lookup k).isSome) ∧ (∀ k v, k < 256 → M.lookup k = some v → ∀ z, D.atKey (kl8 k) z = .held v) ∧
    (∀ k, k < 256 → left (kl8 k) = (has D (kl8 k) && !decide (k ∈ got)))

theorem sameKey8 (j k : Nat) : (kl8 j).sameKey (kl8 k) = decide (j = k) := by
  by_cases h : j = k
  · subst h
    simp [Lit.sameKey]
  · rw [sameKey_ne (kl8_ne h)]
    simp [h]

theorem Rng.kept {w w' : World} {b r : Nat} {M : List (Nat × Value)} {got : List Nat} {S : Nat → Prop} (h : Rng P kt w b r M got) (hk : Kept w w' S) (h1 : ¬ S b) (h2 : ¬ S r) : Rng P kt w' b r M got := by
  obtain ⟨n, D, left, cnt, hr, h3⟩ := h
  refine ⟨n, D, left, cnt, ?_, h3⟩
  have l1 := hr.owns.lt
  have l2 := hr.lt
  obtain ⟨es, clock, since, seen, c0, hb, F, hs, hD, hrr, rest⟩ := hr
  exact ⟨es, clock, since, seen, c0, (hk.block b l1 h1).trans hb, F, hs, hD, (hk.block r l2 h2).trans hrr, rest⟩
theorem Rng.lt {w : World} {b r : Nat} {M : List (Nat × Value)} {got : List Nat} (h : Rng P kt w b r M got) : b < w.heap.size ∧ r < w.heap.size ∧ r ≠ b := by
  obtain ⟨n, D, left, cnt, hr, h3⟩ := h
  exact ⟨hr.owns.lt, hr.lt, hr.ne⟩
theorem Rng.left {w w' : World} {b r : Nat} (h1 : w'.heap[b]? = w.heap[b]?) (h2 : w'.heap[r]? = w.heap[r]?) : w'.rangeLeft b r = w.rangeLeft b r := by
  simp only [World.rangeLeft, h1, h2]

/-- 'range m'. -/
theorem wpList_range_map {w : World} {ops : Array Oper} {rest : List Oper} {o : Oper} {a : Act} {Q : Exit → Act → World → Prop} (hg : o.guard = none) (m : Operand) (t e : TypeId) (hop : o.op = Op.range t m) (hk5 : P.underlying kt = some (.int .u8)) (ht : P.underlying t = some (.map kt e)) (b : Nat) (M : List (Nat × Value))
    (hm : a.eval m = .map (some b)) (h : MapIs P kt w b M)
    (hK : ∀ w', Rng P kt w' b w.heap.size M [] → Fresh w w' → w'.heap.size = w.heap.size + 1 → wpList P ops Q rest (a.put o.dst (.pointer (some ⟨w.heap.size, 0, none⟩))) w') : wpList P ops Q (o :: rest) a w := by
  obtain ⟨n, D, h1, h2, h3, h4, h5, h6, h7⟩ := h
  refine wpList_range_own w hg m t hop kt e (int_keyed hk5) ht R1 b n D hm h2 (fun w' hr hgr hs => hK w' ⟨n, D, _, _, hr, h6, h7, fun k _ => by simp⟩ ((Kept.of_grown hgr).mono (fun _ _ h => by cases h)) hs)

/-- The step of such a range. -/
theorem wpList_next_map {w : World} {ops : Array Oper} {rest : List Oper} {o : Oper} {a : Act} {Q : Exit → Act → World → Prop} (hg : o.guard = none) (it : Operand) (hop : o.op = Op.next it false) (hk5 : P.underlying kt = some (.int .u8)) (b r : Nat) (M : List (Nat × Value)) (got : List Nat)
    (hit : a.eval it = .pointer (some ⟨r, 0, none⟩)) (h : Rng P kt w b r M got)
    (hDone : (∀ k, k < 256 → (M.lookup k).isSome = true → k ∈ got) → wpList P ops Q rest (a.put o.dst (.tuple #[.bool false])) w)
    (hMore : ∀ (k : Nat) (v : Value) (w' : World), k < 256 → M.lookup k = some v → ¬ k ∈ got → Rng P kt w' b r M (got ++ [k]) → w'.rangeLeft b r < w.rangeLeft b r → Kept w w' (fun j => j = r) →
      (Instr.entry (.pointer (some ⟨r, 0, none⟩))).run P w' = .ok (.tuple #[.int .u8 (k : Int), v]) w' → wpList P ops Q rest (a.put o.dst (.tuple #[.bool true, .int .u8 (k : Int), v])) w') : wpList P ops Q (o :: rest) a w := by
  obtain ⟨n, D, left, cnt, hr, h6, h7, h8⟩ := h
  refine wpList_next_ranges w hg it hop kt (int_keyed hk5) R1 (Value.int .u8) id (fun key kl hkey => by obtain ⟨x, rfl, _⟩ := Maps.keyOf_int_inv hk5 hkey; exact ⟨x, rfl⟩) (fun v y _ => ⟨v, rfl⟩)
    b r n D left cnt hit hr (fun _ hl => hDone fun k hk hs => ?_) (fun x c kl y w' cnt' hkey hlk hv hat hrg hlt hgr hsz hen => ?_)
  · have h1 := hl (kl8 k)
    rw [h8 k hk, h6 k hk, hs] at h1
    simpa using h1
  · obtain ⟨x', ex, rfl, hwx⟩ := Maps.keyOf_int_inv hk5 hkey
    cases ex
    have e1 : IntKind.u8.min = 0 := rfl
    have e2 : IntKind.u8.max = 255 := rfl
    have hb : 0 ≤ x ∧ x ≤ 255 := by simpa [Lit.wf, e1, e2] using hwx
    obtain ⟨k, rfl⟩ := Int.eq_ofNat_of_zero_le hb.1
    have hk : k < 256 := by omega
    have h1 : (has D (kl8 k) && !decide (k ∈ got)) = true := by rw [← h8 k hk]; exact hlk
    rw [Bool.and_eq_true] at h1
    have hs := h1.1
    rw [h6 k hk] at hs
    obtain ⟨v, hv'⟩ := Option.isSome_iff_exists.1 hs
    have hcv : c = v := by
      have h2 := hat (.held c)
      have h3 := h7 k v hk hv' (.held c)
      have h4 : y = (.held c, []) := by injection hv with hv; exact hv.symm
      rw [h4] at h2
      have h5 : (DataW.held v : DataW Value) = .held c := h3.symm.trans h2
      injection h5 with h5
      exact h5.symm
    subst hcv
    refine hMore k c w' hk hv' (by simpa using h1.2) ⟨n, D, _, cnt', hrg, h6, h7, fun j hj => ?_⟩ (by rw [hrg.left_eq, hr.left_eq]; exact hlt) ((Kept.of_grown hgr).mono (fun j _ hj => by injection hj with hj; exact hj.symm)) hen
    show (left (kl8 j) && !(kl8 j).sameKey (kl8 k)) = _
    rw [h8 j hj, sameKey8, Bool.and_assoc]
    congr 1
    by_cases hjk : j = k <;> simp [hjk]

theorem MapIs.look {t e : TypeId} {w : World} {b : Nat} {M : List (Nat × Value)} (h : MapIs P kt w b M) (hk5 : P.underlying kt = some (.int .u8)) (ht : P.underlying t = some (.map kt e)) {z : Value} (hz : (zeroValue e).run P w = .ok z w) (k : Nat) (hk : k < 256) (v : Value) (hv : M.lookup k = some v) :
    (Instr.lookup t (.map (some b)) (.int .u8 (k : Int)) false).run P w = .ok v w := by
  obtain ⟨n, D, h1, h2, h3, h4, h5, h6, h7⟩ := h
  have hkey : keyOf P kt (.int .u8 (k : Int)) = some (kl8 k) := keyOf_int_mk hk5 (wf8 hk)
  obtain ⟨v', ps, hrun, hR⟩ := h2.lookup (int_keyed hk5) ht hz (rfl : R1 z = some (.held z, [])) hkey
  rw [h7 k v hk hv] at hR
  injection hR with hR
  injection hR with hR _
  injection hR with hR
  rw [hrun, hR]

theorem MapIs.miss {t e : TypeId} {w : World} {b : Nat} {M : List (Nat × Value)} (h : MapIs P kt w b M) (hk5 : P.underlying kt = some (.int .u8)) (ht : P.underlying t = some (.map kt e)) {z : Value} (hz : (zeroValue e).run P w = .ok z w) (k : Nat) (hk : k < 256) (hv : M.lookup k = none) :
    (Instr.lookup t (.map (some b)) (.int .u8 (k : Int)) true).run P w = .ok (.tuple #[z, .bool false]) w := by
  obtain ⟨n, D, h1, h2, h3, h4, h5, h6, h7⟩ := h
  have hkey : keyOf P kt (.int .u8 (k : Int)) = some (kl8 k) := keyOf_int_mk hk5 (wf8 hk)
  obtain ⟨v', ps, hrun, hR⟩ := h2.look_ok (int_keyed hk5) ht hz (rfl : R1 z = some (.held z, [])) hkey
  have hno : has D (kl8 k) = false := by rw [h6 k hk, hv]; rfl
  rw [atKey_of_not_has hno] at hR
  injection hR with hR
  injection hR with hR _
  injection hR with hR
  rw [hrun, hR, hno]

theorem MapIs.len {t e : TypeId} {w : World} {b : Nat} {M : List (Nat × Value)} (h : MapIs P kt w b M) (ht : P.underlying t = some (.map kt e)) (ty : TypeId) : (Builtin.len_ #[t] ty #[.map (some b)]).run P w = .ok (.int .i64 M.length) w := by
  obtain ⟨n, D, h1, h2, h3, h4, h5, h6, h7⟩ := h
  rw [h2.len ht ty, h4]
end
end

section
open Go.RowKit Go.Maps

theorem wpList_put_map {P : Program} {kt : TypeId} {t e : TypeId} {w : World} {ops : Array Oper} {rest : List Oper} {o : Oper} {a : Act} {Q : Exit → Act → World → Prop} (hg : o.guard = none) (m x v : Operand) (hop : o.op = Op.mapUpdate t m x v)
    (hk5 : P.underlying kt = some (.int .u8)) (ht : P.underlying t = some (.map kt e)) (b : Nat) (M : List (Nat × Value)) (h : MapIs P kt w b M) (hM : M.length ≤ 1000) (k : Nat) (hk : k < 256) (V : Value) (hno : M.lookup k = none)
    (em : a.eval m = .map (some b)) (ex : a.eval x = .int .u8 (k : Int)) (ev : a.eval v = V)
    (hK : ∀ w', MapIs P kt w' b (M ++ [(k, V)]) → Kept w w' (fun j => j = b) → wpList P ops Q rest (a.put o.dst undef) w') : wpList P ops Q (o :: rest) a w := by
  refine wpList_plain hg fun K' hK' => ?_
  obtain ⟨w', hrun, r1, r2⟩ := h.put hk5 ht hM k hk V hno
  unfold Oper.wp
  simp [execOp, hop, em, ex, ev, hrun, Result.andThen]
  exact hK' _ _ (hK w' r1 r2)

theorem wp_put_map {P : Program} {kt : TypeId} {t e : TypeId} {w : World} {o : Oper} {a : Act} {K : Act → World → Prop} {Q : Exit → Act → World → Prop} (m x v : Operand) (hop : o.op = Op.mapUpdate t m x v)
    (hk5 : P.underlying kt = some (.int .u8)) (ht : P.underlying t = some (.map kt e)) (b : Nat) (M : List (Nat × Value)) (h : MapIs P kt w b M) (hM : M.length ≤ 1000) (k : Nat) (hk : k < 256) (V : Value) (hno : M.lookup k = none)
    (em : a.eval m = .map (some b)) (ex : a.eval x = .int .u8 (k : Int)) (ev : a.eval v = V)
    (hK : ∀ w', MapIs P kt w' b (M ++ [(k, V)]) → Kept w w' (fun j => j = b) → K (a.put o.dst undef) w') : o.wp P a w K Q := by
  obtain ⟨w', hrun, r1, r2⟩ := h.put hk5 ht hM k hk V hno
  unfold Oper.wp
  simp [execOp, hop, em, ex, ev, hrun, Result.andThen]
  exact hK w' r1 r2

/-- Here the walk stops. -/
def Stopped (p : Prop) : Prop := p
theorem stop_update {P : Program} {ops : Array Oper} {rest : List Oper} {op : Oper} {a : Act} {w : World} {Q : Exit → Act → World → Prop} {t : TypeId} {m x v : Operand} (_ : op.op = .mapUpdate t m x v) (h : Stopped (wpList P ops Q (op :: rest) a w)) : wpList P ops Q (op :: rest) a w := h
end
end Go.Proofs.Ytahcaoenddapoaa
