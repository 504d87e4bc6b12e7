/- Four words of bytes, filled byte by byte. -/
import Derived.Test.YthmopakaikhjlaaGreatDoorBgi
import Derived.Test.YthmopakaikhjlaaGreatDoorIby
namespace Go.Proofs.YthmopakaikhjlaaGreatDoor
open Go.RowKit

/-- The word number q of the bytes g, the lowest first. -/
def wq (g : Nat → Nat) (q : Nat) : Nat := g (4 * q) + g (4 * q + 1) * 256 + g (4 * q + 2) * 65536 + g (4 * q + 3) * 16777216
/-- g with b at the place pos. -/
def upd (g : Nat → Nat) (pos b : Nat) : Nat → Nat := fun j => if j = pos then b else g j
theorem upd_at (g : Nat → Nat) (pos b : Nat) : upd g pos b pos = b := if_pos rfl
theorem upd_off (g : Nat → Nat) (pos b j : Nat) (h : j ≠ pos) : upd g pos b j = g j := if_neg h
theorem upd_lt (g : Nat → Nat) (pos b : Nat) (h : ∀ j, g j < 256) (hb : b < 256) (j : Nat) : upd g pos b j < 256 := by
  by_cases hj : j = pos
  · subst hj; rw [upd_at]; exact hb
  · rw [upd_off _ _ _ _ hj]; exact h j
theorem four_lt' (a b c d : Nat) (ha : a < 256) (hb : b < 256) (hc : c < 256) (hd : d < 256) : a + b * 256 + c * 65536 + d * 16777216 < 4294967296 := by omega
theorem wq_lt (g : Nat → Nat) (h : ∀ j, g j < 256) (q : Nat) : wq g q < 4294967296 := four_lt' _ _ _ _ (h _) (h _) (h _) (h _)
theorem wq_same (g : Nat → Nat) (pos b q : Nat) (h : pos / 4 ≠ q) : wq (upd g pos b) q = wq g q := by
  unfold wq
  rw [upd_off _ _ _ _ (by omega), upd_off _ _ _ _ (by omega), upd_off _ _ _ _ (by omega), upd_off _ _ _ _ (by omega)]
theorem wq_0 (g : Nat → Nat) (q b : Nat) (h0 : g (4 * q) = 0) : wq (upd g (4 * q) b) q = wq g q + b := by
  unfold wq
  rw [upd_at, upd_off _ _ _ _ (by omega), upd_off _ _ _ _ (by omega), upd_off _ _ _ _ (by omega), h0]
  omega
theorem wq_1 (g : Nat → Nat) (q b : Nat) (h0 : g (4 * q + 1) = 0) : wq (upd g (4 * q + 1) b) q = wq g q + b * 256 := by
  unfold wq
  rw [upd_at, upd_off _ _ _ _ (by omega), upd_off _ _ _ _ (by omega), upd_off _ _ _ _ (by omega), h0]
  omega
theorem wq_2 (g : Nat → Nat) (q b : Nat) (h0 : g (4 * q + 2) = 0) : wq (upd g (4 * q + 2) b) q = wq g q + b * 65536 := by
  unfold wq
  rw [upd_at, upd_off _ _ _ _ (by omega), upd_off _ _ _ _ (by omega), upd_off _ _ _ _ (by omega), h0]
  omega
theorem wq_3 (g : Nat → Nat) (q b : Nat) (h0 : g (4 * q + 3) = 0) : wq (upd g (4 * q + 3) b) q = wq g q + b * 16777216 := by
  unfold wq
  rw [upd_at, upd_off _ _ _ _ (by omega), upd_off _ _ _ _ (by omega), upd_off _ _ _ _ (by omega), h0]
  omega
/-- The number of four words. -/
def dnw (g : Nat → Nat) : Nat := dn (wq g 0) (wq g 1) (wq g 2) (wq g 3)
theorem dn_add0 (x0 x1 x2 x3 c : Nat) : dn (x0 + c) x1 x2 x3 = dn x0 x1 x2 x3 + c := by unfold dn; omega
theorem dn_add1 (x0 x1 x2 x3 c : Nat) : dn x0 (x1 + c) x2 x3 = dn x0 x1 x2 x3 + c * 4294967296 := by unfold dn; omega
theorem dn_add2 (x0 x1 x2 x3 c : Nat) : dn x0 x1 (x2 + c) x3 = dn x0 x1 x2 x3 + c * 18446744073709551616 := by unfold dn; omega
theorem dn_add3 (x0 x1 x2 x3 c : Nat) : dn x0 x1 x2 (x3 + c) = dn x0 x1 x2 x3 + c * 79228162514264337593543950336 := by unfold dn; omega

/-- The words of g. -/
@[reducible] def ws (g : Nat → Nat) : List Nat := [wq g 0, wq g 1, wq g 2, wq g 3]

/-- What one more byte does to the words. -/
theorem ws_upd (g : Nat → Nat) (pos b : Nat) (hp : pos < 16) (h0 : g pos = 0) :
    ws (upd g pos b) = (ws g).set (pos / 4) (wq g (pos / 4) + b * 256 ^ (pos % 4)) ∧ dnw (upd g pos b) = dnw g + b * 256 ^ pos ∧ wq (upd g pos b) (pos / 4) = wq g (pos / 4) + b * 256 ^ (pos % 4) := by
  have hw : wq (upd g pos b) (pos / 4) = wq g (pos / 4) + b * 256 ^ (pos % 4) := by
    obtain ⟨q, r, hr, hpq⟩ : ∃ q r, r < 4 ∧ pos = 4 * q + r := ⟨pos / 4, pos % 4, Nat.mod_lt _ (by decide), by omega⟩
    have hq : pos / 4 = q := by omega
    have hm : pos % 4 = r := by omega
    rw [hq, hm, hpq]
    rw [hpq] at h0
    have h4 : r = 0 ∨ r = 1 ∨ r = 2 ∨ r = 3 := by omega
    rcases h4 with rfl | rfl | rfl | rfl
    · have := wq_0 g q b h0; simpa using this
    · exact wq_1 g q b h0
    · exact wq_2 g q b h0
    · exact wq_3 g q b h0
  have hpow : 256 ^ pos = 256 ^ (pos % 4) * 4294967296 ^ (pos / 4) := by
    rw [show (4294967296 : Nat) = 256 ^ 4 from rfl, ← Nat.pow_mul, ← Nat.pow_add]
    congr 1
    omega
  refine ⟨?_, ?_, hw⟩
  · have h4 : pos / 4 = 0 ∨ pos / 4 = 1 ∨ pos / 4 = 2 ∨ pos / 4 = 3 := by omega
    rw [← hw]
    rcases h4 with h | h | h | h <;> rw [h] <;> simp only [ws, List.set_cons_zero, List.set_cons_succ, List.cons.injEq, and_true, true_and] <;> refine ⟨?_, ?_, ?_⟩ <;> exact wq_same _ _ _ _ (by omega)
  · rw [hpow, ← Nat.mul_assoc]
    unfold dnw
    have h4 : pos / 4 = 0 ∨ pos / 4 = 1 ∨ pos / 4 = 2 ∨ pos / 4 = 3 := by omega
    rcases h4 with h | h | h | h <;> rw [h] at hw ⊢ <;> rw [hw]
    · rw [wq_same _ _ _ 1 (by omega), wq_same _ _ _ 2 (by omega), wq_same _ _ _ 3 (by omega), dn_add0, Nat.pow_zero, Nat.mul_one]
    · rw [wq_same _ _ _ 0 (by omega), wq_same _ _ _ 2 (by omega), wq_same _ _ _ 3 (by omega), dn_add1]
    · rw [wq_same _ _ _ 0 (by omega), wq_same _ _ _ 1 (by omega), wq_same _ _ _ 3 (by omega), dn_add2]
    · rw [wq_same _ _ _ 0 (by omega), wq_same _ _ _ 1 (by omega), wq_same _ _ _ 2 (by omega), dn_add3]

theorem bev_snoc (b : Nat) : ∀ B : List Nat, bev (B ++ [b]) = bev B * 256 + b
  | [] => by simp [bev]
  | a :: B => by
    simp only [List.cons_append, bev, List.length_append, List.length_singleton, bev_snoc b B, Nat.pow_succ]
    rw [Nat.add_mul, Nat.mul_assoc, Nat.add_assoc]
end Go.Proofs.YthmopakaikhjlaaGreatDoor
