/- A frame as a variable: what some slots hold, and no more. Steps through a drawn region over such a frame. -/
import Derived.Test.YtahcaoenddapoaaStp2
namespace Go.Proofs.Ytahcaoenddapoaa
open Go.RowKit

/-- The frame has n slots; those of the list hold what it says (the first entry counts). -/
structure Fr (n : Nat) (a : Act) (L : List (Nat × Value)) : Prop where
  size : a.tmps.size = n
  defs : a.defers = []
  has : ∀ d v, L.lookup d = some v → a.tmps[d]? = some v

theorem Fr.eval {n : Nat} {a : Act} {L : List (Nat × Value)} (h : Fr n a L) (d : Nat) {v : Value} (hl : L.lookup d = some v) : a.tmps[d]?.getD undef = v := by
  rw [h.has d v hl]
  rfl

theorem Fr.put {n : Nat} {a : Act} {L : List (Nat × Value)} (h : Fr n a L) {d : Nat} (v : Value) (hd : d < n) : Fr n (a.put (some d) v) ((d, v) :: L) := by
  refine ⟨by simp [Act.put, h.size], h.defs, fun e u he => ?_⟩
  have hs := h.size
  simp only [List.lookup] at he
  show (a.tmps.setIfInBounds d v)[e]? = some u
  by_cases hde : e = d
  · subst hde
    simp at he
    subst he
    rw [Array.getElem?_setIfInBounds_self_of_lt (by omega)]
  · have hb : (e == d) = false := by simpa using hde
    rw [hb] at he
    rw [Array.getElem?_setIfInBounds_ne (fun h => hde h.symm)]
    exact h.has e u he

/-- The frame written out. -/
theorem Fr.out {n : Nat} {a : Act} {L : List (Nat × Value)} (h : Fr n a L) : a = ⟨Array.ofFn (n := n) fun i => match L.lookup i.val with | some v => v | none => a.tmps[i.val]?.getD undef, []⟩ := by
  obtain ⟨t, d⟩ := a
  have hs : t.size = n := h.size
  have hd : d = [] := h.defs
  subst hd
  congr 1
  refine Array.ext (by simp [hs]) (fun i h1 h2 => ?_)
  rw [Array.getElem_ofFn]
  show t[i] = match L.lookup i with | some v => v | none => t[i]?.getD undef
  cases hl : L.lookup i with
  | some v =>
    have h3 : t[i]? = some v := h.has i v hl
    rw [Array.getElem?_eq_getElem h1] at h3
    injection h3
  | none => simp [h1]

theorem Fr.of {n : Nat} {a : Act} {L : List (Nat × Value)} (hs : a.tmps.size = n) (hd : a.defers = []) (h : ∀ p ∈ L, a.tmps[p.1]? = some p.2) : Fr n a L := by
  refine ⟨hs, hd, ?_⟩
  revert h
  induction L with
  | nil => intro _ d v he; cases he
  | cons p L ih =>
    intro h d v he
    simp only [List.lookup] at he
    by_cases hde : d = p.1
    · have hb : (d == p.1) = true := by simpa using hde
      rw [hb] at he
      simp at he
      have := h p (List.mem_cons_self ..)
      rw [hde, this, he]
    · have hb : (d == p.1) = false := by simpa using hde
      rw [hb] at he
      exact ih (fun q hq => h q (List.mem_cons_of_mem _ hq)) d v he

section
variable {P : Program} {ops : Array Oper} {Q : Exit → Act → World → Prop} {md : Region.Mode} {S : World → Prop}
theorem wpAnyH_gen {n : Nat} {L : List (Nat × Value)} {fuel : Nat} {listed : Array Bool} {a : Act} {w : World} {d : Nat} {v : Value} (hA : Fr n a L) (hd : d < n)
    (h : ∀ a', Fr n a' ((d, v) :: L) → wpAnyH P md ops Q S fuel listed a' w) : wpAnyH P md ops Q S fuel listed (a.put (some d) v) w := h _ (hA.put v hd)
theorem wpAnyH_all {n : Nat} {L : List (Nat × Value)} {fuel : Nat} {listed : Array Bool} {a : Act} {w : World} (hA : Fr n a L)
    (h : ∀ a', Fr n a' L → wpAnyH P md ops Q S fuel listed a' w) : wpAnyH P md ops Q S fuel listed a w := h _ hA
end
end Go.Proofs.Ytahcaoenddapoaa
