/- The insertion sort on a list of things with keys that differ: its invariant, step by step. No program in sight. -/
import Derived.Handy
namespace Go.Proofs.Ytahcaoenddapoaa

section
variable {α : Type}

/-- Two elements change places. -/
def swapAt (L : List α) (i j : Nat) (h : i < L.length ∧ j < L.length) : List α := (L.set i (L[j]'h.2)).set j (L[i]'h.1)
theorem swapAt_length (L : List α) (i j : Nat) (h : i < L.length ∧ j < L.length) : (swapAt L i j h).length = L.length := by simp [swapAt]
theorem swapAt_get (L : List α) (i j : Nat) (h : i < L.length ∧ j < L.length) (k : Nat) (hk : k < L.length) : (swapAt L i j h)[k]'(by rw [swapAt_length]; exact hk) = if k = j then L[i]'h.1 else if k = i then L[j]'h.2 else L[k] := by
  unfold swapAt
  rw [List.getElem_set]
  by_cases h1 : j = k
  · subst h1; simp
  · rw [if_neg h1, if_neg (fun e => h1 e.symm), List.getElem_set]
    by_cases h2 : i = k
    · subst h2; simp
    · rw [if_neg h2, if_neg (fun e => h2 e.symm)]

/-- The first n keys grow. -/
def Upto (key : α → Nat) (L : List α) (n : Nat) : Prop := ∀ a b (ha : a < L.length) (hb : b < L.length), a < b → b < n → key L[a] < key L[b]

/-- Within the round i, the element at j on its way down. -/
structure Down (key : α → Nat) (L : List α) (i j : Nat) : Prop where
  ji : j ≤ i
  lt : i < L.length
  rest : ∀ a b (ha : a < L.length) (hb : b < L.length), a < b → b ≤ i → a ≠ j → b ≠ j → key L[a] < key L[b]
  over : ∀ b (hb : b < L.length), j < b → b ≤ i → key (L[j]'(by omega)) < key L[b]

theorem Down.start {key : α → Nat} {L : List α} {i : Nat} (h : Upto key L i) (hi : i < L.length) : Down key L i i :=
  ⟨Nat.le_refl _, hi, fun a b ha hb hab hbi _ hne => h a b ha hb hab (by omega), fun b hb h1 h2 => by omega⟩

theorem Down.done {key : α → Nat} {L : List α} {i j : Nat} (h : Down key L i j) (hd : j = 0 ∨ ∃ hj : 0 < j, ¬ key (L[j]'(by have := h.ji; have := h.lt; omega)) < key (L[j - 1]'(by have := h.ji; have := h.lt; omega)))
    (hne : ∀ a b (ha : a < L.length) (hb : b < L.length), a ≠ b → key L[a] ≠ key L[b]) : Upto key L (i + 1) := by
  have h1 := h.ji
  have h2 := h.lt
  intro a b ha hb hab hbi
  by_cases hbj : b = j
  · subst hbj
    rcases hd with rfl | ⟨hj, hd⟩
    · omega
    · have h3 := hne b (b - 1) hb (by omega) (by omega)
      have h4 : key (L[b - 1]'(by omega)) < key L[b] := by omega
      by_cases ha1 : a = b - 1
      · subst ha1; exact h4
      · exact Nat.lt_trans (h.rest a (b - 1) ha (by omega) (by omega) (by omega) (by omega) (by omega)) h4
  · by_cases haj : a = j
    · subst haj
      exact h.over b hb hab (by omega)
    · exact h.rest a b ha hb hab (by omega) haj hbj

theorem Down.next {key : α → Nat} {L : List α} {i j : Nat} (h : Down key L i j) (hj : 0 < j) (hb : j < L.length ∧ j - 1 < L.length) (hlt : key (L[j]'hb.1) < key (L[j - 1]'hb.2)) : Down key (swapAt L j (j - 1) hb) i (j - 1) := by
  have h1 := h.ji
  have h2 := h.lt
  have hl := swapAt_length L j (j - 1) hb
  refine ⟨by omega, by omega, fun a b ha hb' hab hbi haj hbj => ?_, fun b hb' h3 h4 => ?_⟩
  · rw [swapAt_get L j (j - 1) hb a (by omega), swapAt_get L j (j - 1) hb b (by omega), if_neg haj, if_neg hbj]
    by_cases ha1 : a = j
    · subst ha1
      rw [if_pos rfl, if_neg (by omega)]
      exact h.rest (a - 1) b (by omega) (by omega) (by omega) hbi (by omega) (by omega)
    · rw [if_neg ha1]
      by_cases hb1 : b = j
      · subst hb1
        rw [if_pos rfl]
        exact h.rest a (b - 1) (by omega) (by omega) (by omega) (by omega) ha1 (by omega)
      · rw [if_neg hb1]
        exact h.rest a b (by omega) (by omega) hab hbi ha1 hb1
  · rw [swapAt_get L j (j - 1) hb (j - 1) (by omega), swapAt_get L j (j - 1) hb b (by omega), if_pos rfl, if_neg (by omega)]
    by_cases hb1 : b = j
    · rw [if_pos hb1]; exact hlt
    · rw [if_neg hb1]
      exact h.over b (by omega) (by omega) h4

theorem swapAt_perm (L : List α) (i j : Nat) (h : i < L.length ∧ j < L.length) : (swapAt L i j h).Perm L := by
  unfold swapAt
  exact List.set_set_perm h.1 h.2
end
end Go.Proofs.Ytahcaoenddapoaa
