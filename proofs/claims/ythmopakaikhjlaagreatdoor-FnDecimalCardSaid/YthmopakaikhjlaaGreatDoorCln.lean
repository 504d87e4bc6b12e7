/- The decimal's text: sign, digits, a point. -/
import Derived.Test.YthmopakaikhjlaaGreatDoorSof
namespace Go.Proofs.YthmopakaikhjlaaGreatDoor
open Go.RowKit

/-- The sign's text. -/
def sgl (neg : Bool) : List Nat := if neg then [45] else []
theorem sgl_length (neg : Bool) : (sgl neg).length = if neg then 1 else 0 := by cases neg <;> rfl
theorem sgl_no46 (neg : Bool) : ∀ b ∈ sgl neg, b ≠ 46 ∧ b < 256 := by
  intro b hb
  cases neg with
  | true => simp [sgl] at hb; omega
  | false => simp [sgl] at hb
theorem dtx_in {D : List Nat} (h : ∀ d ∈ D, d ≤ 9) : ∀ b ∈ dtx D, 48 ≤ b ∧ b ≤ 57 := by
  intro b hb
  obtain ⟨d, hd, rfl⟩ := List.mem_map.1 hb
  have := h d hd
  omega
/-- No point among the bytes from k on. -/
theorem lastP_of (l : List Nat) (k : Nat) (hk : k ≤ l.length) (h : ∀ j (hj : j < l.length), k ≤ j → l[j] % 256 ≠ 46) (h1 : ∀ hj : k - 1 < l.length, 0 < k → l[k - 1] = 46) : LastP (strOf l) k := by
  refine ⟨by rw [strOf_size]; exact hk, fun j hj hkj => ?_, fun hj h0 => ?_⟩
  · have hj' : j < l.length := by rw [← strOf_size]; exact hj
    rw [strOf_get l j hj hj']
    exact h j hj' hkj
  · have hj' : k - 1 < l.length := by rw [← strOf_size]; exact hj
    rw [strOf_get l (k - 1) hj hj', h1 hj' h0]

theorem clean0 (neg : Bool) (D : List Nat) (hD : ∀ d ∈ D, d ≤ 9) : Clean (strOf (sgl neg) ++ strOf (dtx D)) (strOf (sgl neg) ++ strOf (dtx D)) 0 := by
  refine Clean.none ?_ rfl rfl
  rw [← strOf_append]
  refine lastP_of _ 0 (Nat.zero_le _) (fun j hj _ => ?_) (fun _ h => absurd h (Nat.lt_irrefl 0))
  have hm := List.getElem_mem hj
  rcases List.mem_append.1 hm with hm | hm
  · have := sgl_no46 neg _ hm
    omega
  · have := dtx_in hD _ hm
    omega

theorem clean1 (neg : Bool) (A B : List Nat) (hB : ∀ d ∈ B, d ≤ 9) : Clean (strOf (sgl neg) ++ strOf (dtx A ++ (46 :: dtx B))) (strOf (sgl neg) ++ strOf (dtx (A ++ B))) B.length := by
  have hp : ((sgl neg) ++ dtx A).length = (sgl neg).length + A.length := by simp
  have hlen : (sgl neg ++ dtx A ++ 46 :: dtx B).length = (sgl neg).length + A.length + 1 + B.length := by simp; omega
  rw [← strOf_append, ← List.append_assoc]
  refine Clean.some ((sgl neg).length + A.length) ?_ ?_ ?_
  · refine lastP_of _ _ (by omega) (fun j hj hkj => ?_) (fun hj _ => ?_)
    · rw [List.getElem_append_right (by rw [hp]; omega)]
      have hm : ∀ i (hi : i < (46 :: dtx B).length), 1 ≤ i → (46 :: dtx B)[i] % 256 ≠ 46 := by
        intro i hi h1
        obtain ⟨i', rfl⟩ : ∃ i', i = i' + 1 := ⟨i - 1, by omega⟩
        rw [List.getElem_cons_succ]
        have := dtx_in hB _ (List.getElem_mem (by simpa using hi))
        omega
      exact hm _ _ (by rw [hp]; omega)
    · rw [List.getElem_append_right (by rw [hp]; omega)]
      simp
  · rw [strOf_extract, strOf_extract, strOf_size, ← strOf_append, ← strOf_append]
    congr 1
    rw [List.drop_zero, List.take_left' hp, List.take_length]
    rw [show (sgl neg).length + A.length + 1 = (sgl neg ++ dtx A).length + 1 by omega, List.drop_append]
    simp [dtx]
  · rw [strOf_size]; omega

theorem numb_of (neg : Bool) (D : List Nat) (hD : ∀ d ∈ D, d ≤ 9) (hl : D.length ≤ 39) (hn : D ≠ []) : Numb (strOf (sgl neg) ++ strOf (dtx D)) neg D := by
  rw [← strOf_append]
  have hlen : (sgl neg ++ dtx D).length = (if neg then 1 else 0) + D.length := by rw [List.length_append, sgl_length]; simp
  refine ⟨⟨by rw [strOf_size, hlen], fun j h h' => ?_, hD, hl, by cases neg <;> decide⟩, List.length_pos_iff.2 hn, fun hneg h0 => ?_⟩
  · have hj' : (if neg then 1 else 0) + j < (sgl neg ++ dtx D).length := by rw [hlen]; omega
    rw [strOf_get _ _ h' hj', List.getElem_append_right (by rw [sgl_length]; omega)]
    have he : ((if neg then 1 else 0) + j) - (sgl neg).length = j := by rw [sgl_length]; omega
    have h9 := hD _ (List.getElem_mem h)
    simp only [he, List.getElem_map]
    omega
  · subst hneg
    have h1 : 0 < (sgl true ++ dtx D).length := by rw [hlen]; simp; omega
    rw [strOf_get _ _ h0 h1]
    rfl

theorem dv_zeros (k : Nat) (ds : List Nat) : dv (List.replicate k 0 ++ ds) = dv ds := by
  induction k with
  | zero => rfl
  | succ k ih =>
    rw [List.replicate_succ, List.cons_append]
    show List.foldl _ (0 * 10 + 0) _ = _
    exact ih
theorem dv_lt (ds : List Nat) (h : ∀ d ∈ ds, d ≤ 9) : dv ds < 10 ^ ds.length := by
  suffices hh : ∀ (l : List Nat) (a : Nat), (∀ d ∈ l, d ≤ 9) → l.foldl (fun a d => a * 10 + d) a < (a + 1) * 10 ^ l.length by
    have := hh ds 0 h
    rw [Nat.zero_add, Nat.one_mul] at this
    exact this
  intro l
  induction l with
  | nil => intro a _; simp
  | cons d l ih =>
    intro a hl
    have h1 := ih (a * 10 + d) (fun x hx => hl x (by simp [hx]))
    have h2 := hl d (by simp)
    rw [List.foldl_cons, List.length_cons, Nat.pow_succ, Nat.mul_comm (10 ^ l.length), ← Nat.mul_assoc]
    exact Nat.lt_of_lt_of_le h1 (Nat.mul_le_mul_right _ (by omega))
theorem dv_ge (l : List Nat) : ∀ a, a * 10 ^ l.length ≤ l.foldl (fun a d => a * 10 + d) a := by
  induction l with
  | nil => intro a; simp
  | cons d l ih =>
    intro a
    have h1 := ih (a * 10 + d)
    rw [List.foldl_cons, List.length_cons, Nat.pow_succ, Nat.mul_comm (10 ^ l.length), ← Nat.mul_assoc]
    exact Nat.le_trans (Nat.mul_le_mul_right _ (by omega)) h1
theorem dv_pos (ds : List Nat) (hn : ds ≠ []) (h0 : ds.head? ≠ some 0) : dv ds ≠ 0 := by
  cases ds with
  | nil => exact absurd rfl hn
  | cons d l =>
    have hd : 0 < d := by
      refine Nat.pos_of_ne_zero fun h => h0 ?_
      rw [h]; rfl
    have h1 := dv_ge l (0 * 10 + d)
    have h2 : 0 < 10 ^ l.length := Nat.pow_pos (by decide)
    show List.foldl _ (0 * 10 + d) l ≠ 0
    have h3 : 1 * 1 ≤ (0 * 10 + d) * 10 ^ l.length := Nat.mul_le_mul (by omega) h2
    omega
end Go.Proofs.YthmopakaikhjlaaGreatDoor
