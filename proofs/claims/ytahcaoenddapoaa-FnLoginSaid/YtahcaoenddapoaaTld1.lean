/- spec.Told: its words on slices and numbers. -/
import Derived.Test.YtahcaoenddapoaaTld0
namespace Go.Proofs.Ytahcaoenddapoaa
open Go.RowKit

/-- A slice of a slice's bytes, by its place. -/
theorem sub_bts {w : World} {b o n c : Nat} {T : List Nat} (h : Bts w (.slice (some ⟨b, o, none⟩) n c) T) (lo k : Nat) (hk : lo + k ≤ n) : Bts w (.slice (some ⟨b, o + lo, none⟩) k (c - lo)) ((T.drop lo).take k) := by
  obtain ⟨A, c', e, h1, h2, _, h4⟩ := h
  injection e with e1 e2 e3
  subst e3
  obtain ⟨b', o', e', hb, hc⟩ := h4 _ e1.symm
  injection e' with e4 e5
  subst e4
  subst e5
  have hl : ((T.drop lo).take k).length = k := by simp; omega
  refine ⟨_, _, by rw [hl], by omega, by omega, (fun h => by cases h), fun ad hA => ?_⟩
  cases hA
  refine ⟨b, o + lo, rfl, hb, fun j hj => ?_⟩
  rw [hl] at hj
  rw [Nat.add_assoc, hc (lo + j) (by omega)]
  simp

theorem numAt_any {w : World} {b o n c : Nat} {T : List Nat} (h : Bts w (.slice (some ⟨b, o, none⟩) n c) T) (hb : ∀ x ∈ T, x < 256) (lo k : Nat) (hk : lo + k ≤ n) (h8 : k ≤ 8) :
    Calls Try.prog 50 #[.slice (some ⟨b, o + lo, none⟩) k (c - lo)] w fun e w' => e = .returned (.int .u64 (numAt T lo k : Int)) ∧ w' = w :=
  number_any _ (fun x hx => hb x (List.mem_of_mem_drop (List.mem_of_mem_take hx))) _ _ _ w (sub_bts h lo k hk) h8
/-- The byte at a place. -/
theorem byte_at {w : World} {b o n c : Nat} {T : List Nat} (h : Bts w (.slice (some ⟨b, o, none⟩) n c) T) (p : Nat) (hp : p < n) {z : Int} (hz : (numAt T p 1 : Int) = z) : w.cell? ⟨b, o + p, none⟩ = some (.int .u8 z) := by
  obtain ⟨A, c', e, h1, h2, _, h4⟩ := h
  injection e with e1 e2 e3
  obtain ⟨b', o', e', hb, hc⟩ := h4 _ e1.symm
  injection e' with e4 e5
  subst e4
  subst e5
  rw [hc p (by omega), ← hz]
  have hd : T.drop p = T[p]'(by omega) :: T.drop (p + 1) := List.drop_eq_getElem_cons (by omega)
  have : numAt T p 1 = T[p]'(by omega) := by
    unfold numAt
    rw [hd]
    rfl
  rw [this]
theorem numAt_lt {T : List Nat} (hb : ∀ b ∈ T, b < 256) (p k : Nat) : numAt T p k < 256 ^ k := by
  unfold numAt
  have h1 := leVal_lt ((T.drop p).take k) (fun x hx => hb x (List.mem_of_mem_drop (List.mem_of_mem_take hx)))
  have h2 : ((T.drop p).take k).length ≤ k := List.length_take_le _ _
  exact Nat.lt_of_lt_of_le h1 (Nat.pow_le_pow_right (by decide) h2)
theorem numAt_byte {T : List Nat} (hb : ∀ b ∈ T, b < 256) (p : Nat) : numAt T p 1 ≤ 255 := by
  have := numAt_lt hb p 1
  omega
theorem tl_lt (x : Lg) (j : Nat) : ∀ b ∈ x.tl j, b < 256 := by
  unfold Lg.tl
  rw [List.getD_eq_getElem?_getD]
  by_cases hj : j < 9
  · match j, hj with
    | 0, _ => exact ucs_lt _
    | 1, _ => exact ucs_lt _
    | 2, _ => exact mangle_lts (ucs_lt _)
    | 3, _ => exact ucs_lt _
    | 4, _ => exact ucs_lt _
    | 5, _ => intro b hb; cases hb
    | 6, _ => exact ucs_lt _
    | 7, _ => exact ucs_lt _
    | 8, _ => exact ucs_lt _
    | j + 9, h => omega
  · rw [List.getElem?_eq_none (by simp; omega)]
    intro b hb
    cases hb
end Go.Proofs.Ytahcaoenddapoaa
