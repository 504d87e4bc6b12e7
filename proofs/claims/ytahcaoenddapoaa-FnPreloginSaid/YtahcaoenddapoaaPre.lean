/- The payload of options: plain facts on its places. -/
import Derived.Test.YtahcaoenddapoaaWpl
namespace Go.Proofs.Ytahcaoenddapoaa

/-- The payload of the options ks with the data D. -/
def pre (D : Nat → List Nat) (ks : List Nat) : List Nat := tabs D (5 * ks.length + 1) ks ++ [255] ++ ks.flatMap D

theorem tabs_append (D : Nat → List Nat) (a b : List Nat) : ∀ o, tabs D o (a ++ b) = tabs D o a ++ tabs D (o + (a.flatMap D).length) b := by
  induction a with
  | nil => intro o; simp [tabs]
  | cons x a ih =>
    intro o
    simp only [List.cons_append, tabs, ih, List.append_assoc, List.flatMap_cons, List.length_append, Nat.add_assoc]

/-- Where the data of the option j lie. -/
def offOf (D : Nat → List Nat) (ks : List Nat) (j : Nat) : Nat := 5 * ks.length + 1 + ((ks.take j).flatMap D).length

theorem split_at (ks : List Nat) (j : Nat) (h : j < ks.length) : ks = ks.take j ++ ks[j] :: ks.drop (j + 1) := by
  rw [← List.drop_eq_getElem_cons h, List.take_append_drop]

theorem pre_row (D : Nat → List Nat) (ks : List Nat) (j : Nat) (h : j < ks.length) :
    ∃ A B, A.length = 5 * j ∧ B ≠ [] ∧ pre D ks = A ++ ([ks[j], offOf D ks j / 256 % 256, offOf D ks j % 256, (D ks[j]).length / 256 % 256, (D ks[j]).length % 256] ++ B) := by
  refine ⟨tabs D (5 * ks.length + 1) (ks.take j), tabs D (offOf D ks j + (D ks[j]).length) (ks.drop (j + 1)) ++ [255] ++ ks.flatMap D, ?_, by simp, ?_⟩
  · rw [tabs_length, List.length_take]
    congr 1
    omega
  · unfold pre
    have e := tabs_append D (ks.take j) (ks[j] :: ks.drop (j + 1)) (5 * ks.length + 1)
    rw [← split_at ks j h] at e
    rw [e]
    simp only [tabs, List.append_assoc, offOf]

theorem pre_data (D : Nat → List Nat) (ks : List Nat) (j : Nat) (h : j < ks.length) : ((pre D ks).drop (offOf D ks j)).take (D ks[j]).length = D ks[j] ∧ offOf D ks j + (D ks[j]).length ≤ (pre D ks).length := by
  have e : pre D ks = (tabs D (5 * ks.length + 1) ks ++ [255] ++ (ks.take j).flatMap D) ++ (D ks[j] ++ (ks.drop (j + 1)).flatMap D) := by
    unfold pre
    have e2 : ks.flatMap D = (ks.take j).flatMap D ++ (D ks[j] ++ (ks.drop (j + 1)).flatMap D) := by
      have e3 := congrArg (List.flatMap D) (split_at ks j h)
      rw [List.flatMap_append, List.flatMap_cons] at e3
      exact e3
    rw [e2]
    simp only [List.append_assoc]
  have hl : (tabs D (5 * ks.length + 1) ks ++ [255] ++ (ks.take j).flatMap D).length = offOf D ks j := by
    rw [List.length_append, List.length_append, tabs_length]
    simp only [List.length_cons, List.length_nil, offOf]
  rw [e, ← hl]
  constructor
  · rw [List.drop_left, List.take_left]
  · simp only [List.length_append]
    omega

theorem pre_length (D : Nat → List Nat) (ks : List Nat) : (pre D ks).length = 5 * ks.length + 1 + (ks.flatMap D).length := by
  unfold pre
  rw [List.length_append, List.length_append, tabs_length]
  simp only [List.length_cons, List.length_nil]

theorem pre_end (D : Nat → List Nat) (ks : List Nat) : ∃ h : 5 * ks.length < (pre D ks).length, (pre D ks)[5 * ks.length] = 255 := by
  have hl := pre_length D ks
  refine ⟨by omega, ?_⟩
  have e : pre D ks = tabs D (5 * ks.length + 1) ks ++ (255 :: ks.flatMap D) := by
    unfold pre
    rw [List.append_assoc]
    rfl
  have ht := tabs_length D ks (5 * ks.length + 1)
  have h1 : (pre D ks)[5 * ks.length]? = some 255 := by
    rw [e, List.getElem?_append_right (by omega), ht, Nat.sub_self]
    rfl
  exact (List.getElem?_eq_some_iff.1 h1).2

theorem pre_at (D : Nat → List Nat) (ks : List Nat) (j : Nat) (h : j < ks.length) :
    (pre D ks)[5 * j]? = some ks[j] ∧ (pre D ks)[5 * j + 1]? = some (offOf D ks j / 256 % 256) ∧ (pre D ks)[5 * j + 2]? = some (offOf D ks j % 256) ∧ (pre D ks)[5 * j + 3]? = some ((D ks[j]).length / 256 % 256) ∧ (pre D ks)[5 * j + 4]? = some ((D ks[j]).length % 256) ∧ 5 * j + 5 < (pre D ks).length := by
  obtain ⟨A, B, hA, hB, e⟩ := pre_row D ks j h
  have hBl : 0 < B.length := List.length_pos_iff.2 hB
  rw [e]
  refine ⟨?_, ?_, ?_, ?_, ?_, by simp; omega⟩
  all_goals rw [List.getElem?_append_right (by omega), hA]
  · rw [Nat.sub_self]; rfl
  · rw [Nat.add_sub_cancel_left]; rfl
  · rw [Nat.add_sub_cancel_left]; rfl
  · rw [Nat.add_sub_cancel_left]; rfl
  · rw [Nat.add_sub_cancel_left]; rfl

theorem flat_le (D : Nat → List Nat) (ks : List Nat) (N : Nat) (h : ∀ k ∈ ks, (D k).length ≤ N) : (ks.flatMap D).length ≤ N * ks.length := by
  induction ks with
  | nil => simp
  | cons x ks ih =>
    have h1 := h x (by simp)
    have h2 := ih (fun k hk => h k (by simp [hk]))
    simp only [List.flatMap_cons, List.length_append, List.length_cons, Nat.mul_succ]
    omega

/-- Two growing lists with the same members are one. -/
theorem sorted_one : ∀ {a b : List Nat}, a.Pairwise (· < ·) → b.Pairwise (· < ·) → (∀ k, k ∈ a ↔ k ∈ b) → a = b := by
  intro a
  induction a with
  | nil =>
    intro b _ _ h
    cases b with
    | nil => rfl
    | cons y b => exact absurd ((h y).2 (by simp)) (by simp)
  | cons x a ih =>
    intro b ha hb h
    cases b with
    | nil => exact absurd ((h x).1 (by simp)) (by simp)
    | cons y b =>
      rw [List.pairwise_cons] at ha hb
      have exy : x = y := by
        have h1 := (h x).1 (by simp)
        have h2 := (h y).2 (by simp)
        rcases List.mem_cons.1 h1 with h1 | h1
        · exact h1
        rcases List.mem_cons.1 h2 with h2 | h2
        · exact h2.symm
        have h3 := hb.1 x h1
        have h4 := ha.1 y h2
        omega
      subst exy
      refine congrArg (x :: ·) (ih ha.2 hb.2 fun k => ⟨fun hk => ?_, fun hk => ?_⟩)
      · have h1 := (h k).1 (by simp [hk])
        rcases List.mem_cons.1 h1 with h1 | h1
        · have := ha.1 k hk; omega
        · exact h1
      · have h1 := (h k).2 (by simp [hk])
        rcases List.mem_cons.1 h1 with h1 | h1
        · have := hb.1 k hk; omega
        · exact h1
end Go.Proofs.Ytahcaoenddapoaa
