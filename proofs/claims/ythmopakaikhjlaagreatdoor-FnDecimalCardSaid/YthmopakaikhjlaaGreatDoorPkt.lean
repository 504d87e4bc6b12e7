/- Packets, as bytes. No program in sight. -/
import Derived.Test.YthmopakaikhjlaaGreatDoorMem
namespace Go.Proofs.YthmopakaikhjlaaGreatDoor

/-- A packet: kind, mark, size, number, payload. -/
def pack (typ st seq : Nat) (pay : List Nat) : List Nat := [typ, st, (pay.length + 8) / 256 % 256, (pay.length + 8) % 256, 0, 0, seq, 0] ++ pay
/-- The first k packets of the message T, c bytes each. -/
def packs (c typ k : Nat) (T : List Nat) : List Nat := (List.range k).flatMap fun i => pack typ 0 ((i + 1) % 256) ((T.drop (c * i)).take c)
/-- All packets, the last one is number k + 1. -/
def packed (c typ k : Nat) (T : List Nat) : List Nat := packs c typ k T ++ pack typ 1 ((k + 1) % 256) (T.drop (c * k))

/-- k packets are filled, and more is to come. -/
def Less (c k : Nat) (T : List Nat) : Prop := k = 0 ∨ c * k < T.length

/-- l are the packets of a message. -/
def AllPacked (c typ : Nat) (T l : List Nat) : Prop := ∃ k, (k = 0 ∨ c * k < T.length) ∧ T.length ≤ c * k + c ∧ l = packed c typ k T

theorem packs_zero (c typ : Nat) (T : List Nat) : packs c typ 0 T = [] := rfl
theorem packs_succ (c typ k : Nat) (T : List Nat) : packs c typ (k + 1) T = packs c typ k T ++ pack typ 0 ((k + 1) % 256) ((T.drop (c * k)).take c) := by simp [packs, List.range_succ]
theorem packs_append (c typ : Nat) (T m : List Nat) : ∀ k, c * k ≤ T.length → packs c typ k (T ++ m) = packs c typ k T
  | 0, _ => rfl
  | k + 1, h => by
    have h' : c * k + c ≤ T.length := by rw [Nat.mul_succ] at h; exact h
    rw [packs_succ, packs_succ, packs_append c typ T m k (by omega)]
    congr 2
    rw [List.drop_append_of_le_length (by omega), List.take_append_of_le_length (by rw [List.length_drop]; omega)]
theorem packs_length (c typ : Nat) (T : List Nat) : ∀ k, c * k ≤ T.length → (packs c typ k T).length = (c + 8) * k
  | 0, _ => rfl
  | k + 1, h => by
    have h' : c * k + c ≤ T.length := by rw [Nat.mul_succ] at h; exact h
    rw [packs_succ, List.length_append, packs_length c typ T k (by omega), Nat.mul_succ]
    simp [pack, List.length_take, List.length_drop]
    omega
theorem last_one {c k j n : Nat} (hk1 : k = 0 ∨ c * k < n) (hk2 : n ≤ c * k + c) (hj1 : j = 0 ∨ c * j < n) (hj2 : n ≤ c * j + c) : k = j := by
  rcases Nat.lt_trichotomy k j with h | h | h
  · have : c * k + c ≤ c * j := by
      have := Nat.mul_le_mul_left c (show k + 1 ≤ j from h)
      rwa [Nat.mul_succ] at this
    omega
  · exact h
  · have : c * j + c ≤ c * k := by
      have := Nat.mul_le_mul_left c (show j + 1 ≤ k from h)
      rwa [Nat.mul_succ] at this
    omega
theorem pack_lt {typ st seq : Nat} {pay : List Nat} (h1 : typ < 256) (h2 : st < 256) (h3 : seq < 256) (h : ∀ b ∈ pay, b < 256) : ∀ b ∈ pack typ st seq pay, b < 256 := by
  intro b hb
  simp only [pack, List.cons_append, List.nil_append, List.mem_cons] at hb
  rcases hb with rfl | rfl | rfl | rfl | rfl | rfl | rfl | rfl | hb
  all_goals first | omega | exact h b hb | exact Nat.mod_lt _ (by decide)
theorem packed_lt {c typ k : Nat} {T : List Nat} (h1 : typ < 256) (h : ∀ b ∈ T, b < 256) : ∀ b ∈ packed c typ k T, b < 256 := by
  intro b hb
  simp only [packed, List.mem_append, packs, List.mem_flatMap] at hb
  rcases hb with ⟨i, _, hb⟩ | hb
  · exact pack_lt h1 (by decide) (Nat.mod_lt _ (by decide)) (fun b hb => h b (List.mem_of_mem_drop (List.mem_of_mem_take hb))) b hb
  · exact pack_lt h1 (by decide) (Nat.mod_lt _ (by decide)) (fun b hb => h b (List.mem_of_mem_drop hb)) b hb

/-- The bytes of a slice's end. -/
theorem BtsK.cut {K : IntKind} {w : World} {A : Option Addr} {n c : Nat} {l : List Nat} (h : BtsK K w (.slice A n c) l) (k : Nat) (hk : k ≤ n) : BtsK K w (.slice (if c = k then A else A.map (·.add k)) (n - k) (c - k)) (l.drop k) := by
  obtain ⟨A', c', e, h1, h2, h3, h4⟩ := h
  injection e with e1 e2 e3
  subst e1 e2 e3
  refine ⟨if c = k then A else A.map (·.add k), c - k, by rw [List.length_drop], by rw [List.length_drop]; omega, by omega, fun hA => ?_, fun ad hA => ?_⟩
  · have hN : A = none := by
      split at hA
      · exact hA
      · simpa using hA
    obtain ⟨rfl, rfl⟩ := h3 hN
    simp
  · cases A with
    | none => split at hA <;> simp at hA
    | some a =>
      obtain ⟨b, o, rfl, hb, hc⟩ := h4 a rfl
      by_cases he : c = k
      · rw [if_pos he] at hA
        injection hA with hA
        refine ⟨b, o, hA.symm, hb, fun j hj => ?_⟩
        rw [List.length_drop] at hj
        omega
      · rw [if_neg he] at hA
        have hadd : (⟨b, o, none⟩ : Addr).add k = ⟨b, o + k, none⟩ := by unfold Addr.add; split <;> simp_all
        rw [Option.map_some, hadd] at hA
        injection hA with hA
        refine ⟨b, o + k, hA.symm, hb, fun j hj => ?_⟩
        rw [List.length_drop] at hj
        have := hc (k + j) (by omega)
        rw [Nat.add_assoc, this]
        simp
/-- The bytes of a slice's head. -/
theorem BtsK.head {K : IntKind} {w : World} {A : Option Addr} {n c : Nat} {l : List Nat} (h : BtsK K w (.slice A n c) l) (k : Nat) (hk : k ≤ n) : BtsK K w (.slice A k c) (l.take k) := by
  obtain ⟨A', c', e, h1, h2, h3, h4⟩ := h
  injection e with e1 e2 e3
  subst e1 e2 e3
  have hl : (l.take k).length = k := by rw [List.length_take]; omega
  refine ⟨A, c, by rw [hl], by omega, h2, fun hA => ?_, fun ad hA => ?_⟩
  · obtain ⟨rfl, rfl⟩ := h3 hA
    simp
  · obtain ⟨b, o, rfl, hb, hc⟩ := h4 ad hA
    refine ⟨b, o, rfl, hb, fun j hj => ?_⟩
    rw [hl] at hj
    rw [hc j (by omega)]
    simp
theorem BtsK.room {K : IntKind} {w : World} {A : Option Addr} {n c : Nat} {l : List Nat} (h : BtsK K w (.slice A n c) l) : n ≤ c := by
  obtain ⟨A', c', e, h1, h2, h3, h4⟩ := h
  injection e with e1 e2 e3
  omega
theorem BtsK.len {K : IntKind} {w : World} {A : Option Addr} {n c : Nat} {l : List Nat} (h : BtsK K w (.slice A n c) l) : n = l.length := by
  obtain ⟨A', c', e, h1, h2, h3, h4⟩ := h
  injection e
theorem BtsK.slice {K : IntKind} {w : World} {v : Value} {l : List Nat} (h : BtsK K w v l) : ∃ A c, v = .slice A l.length c ∧ l.length ≤ c := by
  obtain ⟨A', c', e, h1, h2, h3, h4⟩ := h
  exact ⟨A', c', e, h1⟩
end Go.Proofs.YthmopakaikhjlaaGreatDoor
