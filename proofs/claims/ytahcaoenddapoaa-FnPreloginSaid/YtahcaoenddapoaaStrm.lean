/- A stream of packets, and what it carries. No program in sight. -/
import Derived.Test.YtahcaoenddapoaaPkt
namespace Go.Proofs.Ytahcaoenddapoaa

/-- The packets that follow (none, behind the last one), and what they carry. -/
inductive Str (ps typ : Nat) : Bool → List Nat → List Nat → Prop
  | last (F : List Nat) : Str ps typ true F []
  | more (st seq : Nat) (pay F M : List Nat) (hs : st < 256) (h0 : 0 < pay.length) (hp : pay.length + 8 ≤ ps) (h : Str ps typ (decide (st ≠ 0)) F M) : Str ps typ false (pack typ st seq pay ++ F) (pay ++ M)

theorem pack_len (typ st seq : Nat) (pay : List Nat) : (pack typ st seq pay).length = pay.length + 8 := by simp [pack]

/-- A message's packets are such a stream. -/
theorem str_packed (c typ ps : Nat) (T : List Nat) (hc : 0 < c) (hps : c + 8 ≤ ps) : ∀ (d k j : Nat), k = j + d → (k = 0 ∨ c * k < T.length) → T.length ≤ c * k + c → 0 < T.length → 
    Str ps typ false (((List.range d).flatMap fun i => pack typ 0 ((j + i + 1) % 256) ((T.drop (c * (j + i))).take c)) ++ pack typ 1 ((k + 1) % 256) (T.drop (c * k))) (T.drop (c * j))
  | 0, k, j, e, h1, h2, h3 => by
    obtain rfl : k = j := by omega
    have hlt : c * k < T.length := by rcases h1 with rfl | h1 <;> omega
    have := Str.more (ps := ps) (typ := typ) 1 ((k + 1) % 256) (T.drop (c * k)) [] [] (by decide) (by rw [List.length_drop]; omega) (by rw [List.length_drop]; omega) (Str.last _)
    simpa using this
  | d + 1, k, j, e, h1, h2, h3 => by
    have ih := str_packed c typ ps T hc hps d k (j + 1) (by omega) h1 h2 h3
    have hk : c * k < T.length := by rcases h1 with rfl | h1 <;> omega
    have hj : c * (j + 1) ≤ c * k := Nat.mul_le_mul_left c (by omega)
    rw [Nat.mul_succ] at hj
    have hl : ((T.drop (c * j)).take c).length = c := by rw [List.length_take, List.length_drop]; omega
    have := Str.more (ps := ps) (typ := typ) 0 ((j + 1) % 256) ((T.drop (c * j)).take c) _ _ (by decide) (by omega) (by omega) ih
    have e1 : (T.drop (c * j)).take c ++ T.drop (c * (j + 1)) = T.drop (c * j) := by rw [Nat.mul_succ, ← List.drop_drop, List.take_append_drop]
    rw [e1] at this
    rw [List.range_succ_eq_map, List.flatMap_cons, List.flatMap_map, List.append_assoc]
    simp only [Nat.add_zero, Nat.add_assoc] at this ⊢
    have e2 : ∀ i, j + (i + 1) = j + (1 + i) := fun i => by omega
    simp only [Nat.succ_eq_add_one, e2]
    exact this


theorem str_all {c typ ps : Nat} {T l : List Nat} (h : AllPacked c typ T l) (hc : 0 < c) (hps : c + 8 ≤ ps) (hT : 0 < T.length) : Str ps typ false l T := by
  obtain ⟨k, h1, h2, rfl⟩ := h
  have := str_packed c typ ps T hc hps k k 0 (by omega) h1 h2 hT
  simpa [packed, packs, Nat.zero_add] using this
end Go.Proofs.Ytahcaoenddapoaa
