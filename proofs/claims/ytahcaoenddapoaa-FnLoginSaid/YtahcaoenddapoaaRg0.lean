/- The region of the header's literal in sendLogin: its operations by number; steps through it over a frame that is a variable. -/
import Derived.Test.YtahcaoenddapoaaLgn
import Derived.Test.YtahcaoenddapoaaStp3
namespace Go.Proofs.Ytahcaoenddapoaa
open Go.RowKit

/-- The operations of a function's region. -/
def regOf (n : Nat) : Code → Option (Array Oper)
  | .region i o _ => if i == n then some o else none
  | .seq a b => (regOf n a).or (regOf n b)
  | .block _ c => regOf n c
  | .loop c => regOf n c
  | .scope c => regOf n c
  | .cond _ a b => (regOf n a).or (regOf n b)
  | _ => none

def noOp : Oper := ⟨none, .move (.const undef), 0, "", #[], none⟩

/-- The operations of sendLogin's literal. -/
noncomputable def ops83 : Array Oper := (((Try.f83.body).bind (regOf 13)).getD #[])
noncomputable def op83 (i : Nat) : Oper := (ops83[i]?).getD noOp

theorem size83 : ops83.size = 117 := by kernel_rfl
theorem noSel83 : Region.noSelect ops83 = true := by kernel_rfl
theorem hi83 (i : Nat) (h : i < 117) : ops83[i]? = some (op83 i) := by
  have : i < ops83.size := by rw [size83]; exact h
  unfold op83
  rw [Array.getElem?_eq_getElem this]
  rfl
theorem dst83 : ∀ i, i < 115 → (op83 i).dst = some (73 + i) := by
  have h : (List.range 115).all (fun i => (op83 i).dst == some (73 + i)) = true := by kernel_rfl
  intro i hi
  have := List.all_eq_true.1 h i (List.mem_range.2 hi)
  simpa using this
theorem wanted83 (i : Nat) (hi : i < 117) (F : Array Value) : Region.wanted (op83 i) (yielded ops83 F) = true := by
  have h : (List.range 117).all (fun i => (op83 i).guard == none) = true := by kernel_rfl
  have := List.all_eq_true.1 h i (List.mem_range.2 hi)
  have hg : (op83 i).guard = none := by simpa using this
  unfold Region.wanted
  rw [hg]

/-- May operation i be taken first, where those of N have come? -/
noncomputable def okTake (N i : Nat) : Bool := Region.free .any ops83 (lst 117 N) i && (Region.ready .any ops83 (lst 117 N)).contains i

theorem lst_set (n N i : Nat) : (lst n N).setIfInBounds i true = lst n (N ||| 2 ^ i) := by
  unfold lst
  apply Array.ext'
  simp only [Array.toList_setIfInBounds]
  apply List.ext_getElem?
  intro j
  by_cases hij : i = j
  · subst hij
    by_cases hi : i < n
    · rw [List.getElem?_set_self (by simpa using hi)]
      simp [hi, Nat.testBit_or, Nat.testBit_two_pow_self]
    · rw [List.getElem?_eq_none (by simp; omega), List.getElem?_eq_none (by simp; omega)]
  · rw [List.getElem?_set_ne hij]
    by_cases hj : j < n
    · simp [hj, Nat.testBit_or, Nat.testBit_two_pow, hij]
    · simp [hj]

/-- A panic is a panic, whatever the slots hold. -/
def PanicsUp (Q : Exit → Act → World → Prop) : Prop := ∀ c (a : Act) (d : Option Nat) v w, Q (.panic c) (a.put d v) w → Q (.panic c) a w

theorem Fr.keep {n : Nat} {a : Act} {B : List (Nat × Value)} (h : Fr n a B) {d : Nat} (v : Value) (hb : B.lookup d = none) : Fr n (a.put (some d) v) B := by
  refine ⟨by simp [Act.put, h.size], h.defs, fun e u he => ?_⟩
  have hne : d ≠ e := fun e' => by subst e'; rw [hb] at he; cases he
  show (a.tmps.setIfInBounds d v)[e]? = some u
  rw [Array.getElem?_setIfInBounds_ne hne]
  exact h.has e u he

section
variable {Q : Exit → Act → World → Prop} {S : World → Prop}
theorem tk83 (hQ : PanicsUp Q) {i d N N' fuel : Nat} {a : Act} {w : World} {v : Value} {L B : List (Nat × Value)} (hok : okTake N i = true) (hN : N ||| 2 ^ i = N') (hi : i < 115) (hd : 73 + i = d)
    (hA : Fr 427 a L) (hB : Fr 427 a B) (hb : B.lookup d = none) (hy : ∀ W, S W → (execOp a.eval (op83 i)).run Try.prog W = .ok (.value v) W) (hS : S w)
    (h : ∀ a', Fr 427 a' ((d, v) :: L) → Fr 427 a' B → wpAnyH Try.prog .any ops83 Q S fuel (lst 117 N') a' w) : wpAnyH Try.prog .any ops83 Q S (fuel + 1) (lst 117 N) a w := by
  unfold okTake at hok
  simp only [Bool.and_eq_true] at hok
  subst hd
  refine reg_take (ops := ops83) (ops0 := ops83) (Go.Lib.hid rfl) (hi83 i (by omega)) noSel83 hok.1 hok.2 hQ (by rw [lst_set, hN]) (wanted83 i (by omega) _) hy hS ?_
  rw [dst83 i hi]
  exact h _ (hA.put v (by omega)) (hB.keep v hb)
end
end Go.Proofs.Ytahcaoenddapoaa
