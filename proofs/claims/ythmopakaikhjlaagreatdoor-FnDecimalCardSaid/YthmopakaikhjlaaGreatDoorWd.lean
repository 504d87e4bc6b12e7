/- Rows of words: a number by its words, the lowest one first. mulAddVWW. -/
import Derived.Test.YthmopakaikhjlaaGreatDoorAr
namespace Go.Proofs.YthmopakaikhjlaaGreatDoor
open Go.RowKit

/-- The block g holds the words C. -/
def WB (w : World) (g : Nat) (C : List Nat) : Prop := w.heap[g]? = some (.cells (ints .u64 C).toArray 102 (0, 0))

section
variable {w w' : World} {g : Nat} {C : List Nat}
theorem WB.lt (h : WB w g C) : g < w.heap.size := (Array.getElem?_eq_some_iff.1 h).1
theorem WB.kept {S : Nat → Prop} (h : WB w g C) (hk : Kept w w' S) (hS : ¬ S g) : WB w' g C := (hk.block g h.lt hS).trans h
theorem WB.fresh (h : WB w g C) (hk : Fresh w w') : WB w' g C := h.kept hk (fun h => h)
theorem WB.cellAt (h : WB w g C) (j : Nat) (hj : j < C.length) : w.cell? ⟨g, j, none⟩ = some (.int .u64 ((C[j] : Nat) : Int)) := by
  rw [cell_of_row w g j _ _ _ h]
  have := ints_get .u64 C j hj
  simpa using this
theorem WB.frozenAt (h : WB w g C) (j : Nat) : w.frozen? ⟨g, j, none⟩ = false := frozen_of_row w g j _ _ h
theorem WB.stored (h : WB w g C) (j x : Nat) : WB (w.setCell ⟨g, j, none⟩ (.int .u64 (x : Int))) g (C.set j x) := by
  unfold WB
  rw [heap_setCell_same w g j _ _ _ h]
  congr 2
  simp [ints, List.map_set]
end

/-- The number that words tell. -/
def nv : List Nat → Nat
  | [] => 0
  | d :: L => d + 18446744073709551616 * nv L

theorem nv_snoc (d : Nat) : ∀ L : List Nat, nv (L ++ [d]) = nv L + d * 18446744073709551616 ^ L.length
  | [] => by simp [nv]
  | x :: L => by
    simp only [List.cons_append, nv, nv_snoc d L, List.length_cons, Nat.pow_succ, Nat.mul_add]
    have : 18446744073709551616 * (d * 18446744073709551616 ^ L.length) = d * (18446744073709551616 ^ L.length * 18446744073709551616) := by
      rw [Nat.mul_comm, Nat.mul_assoc]
    omega

theorem nv_take (L : List Nat) (i : Nat) (h : i < L.length) : nv (L.take (i + 1)) = nv (L.take i) + L[i] * 18446744073709551616 ^ i := by
  rw [List.take_succ_eq_append_getElem h, nv_snoc, List.length_take, Nat.min_eq_left (by omega)]

/-- One step of the product. -/
theorem mul_step {O N k P x y c B : Nat} (h : O + k * P = N * y + c) : O + (x * y + k) % B * P + (x * y + k) / B * (P * B) = (N + x * P) * y + c := by
  have h1 : (x * y + k) % B * P + (x * y + k) / B * (P * B) = (x * y + k) * P := by
    have h2 := Nat.mod_add_div (x * y + k) B
    have h3 : (x * y + k) / B * (P * B) = B * ((x * y + k) / B) * P := by
      rw [Nat.mul_comm P B, ← Nat.mul_assoc, Nat.mul_comm ((x * y + k) / B) B]
    rw [h3, ← Nat.add_mul, h2]
  rw [Nat.add_assoc, h1, Nat.add_mul, Nat.add_mul]
  have h4 : x * y * P = x * P * y := by rw [Nat.mul_right_comm]
  omega

set_option maxRecDepth 100000 in
set_option maxHeartbeats 1000000 in
theorem mulRow_any (g h m cz cx y c : Nat) (L C : List Nat) (w : World) (hC : WB w g C) (hm : L.length = m) (hmC : m ≤ C.length) (hmz : m ≤ cz) (hmx : m ≤ cx) (hm9 : m ≤ 100) (hL : ∀ d ∈ L, d < 18446744073709551616)
    (hx : ∀ j (hj : j < L.length), w.cell? ⟨h, j, none⟩ = some (.int .u64 ((L[j] : Nat) : Int))) (hy : y < 18446744073709551616) (hc : c < 18446744073709551616) :
    Calls Tryz.prog 115 #[.slice (some ⟨g, 0, none⟩) m cz, .slice (some ⟨h, 0, none⟩) m cx, .int .u64 y, .int .u64 c] w fun e w' => ∃ (O : List Nat) (k : Nat), e = .returned (.int .u64 (k : Int)) ∧ k < 18446744073709551616 ∧ O.length = m ∧ (∀ d ∈ O, d < 18446744073709551616) ∧ nv O + k * 18446744073709551616 ^ m = nv L * y + c ∧ WB w' g (O ++ C.drop m) ∧ Kept w w' (fun j => j = g) := by
  have HC := Go.Lib.hid hC
  have HM := Go.Lib.hid hm
  have HMC := Go.Lib.hid hmC
  have HL := Go.Lib.hid hL
  have HX := Go.Lib.hid hx
  have HY := Go.Lib.hid (And.intro hy hc)
  clear hC hm hmC hL hx hy hc
  go_enter Tryz.func115, Tryz.ntmps115
  go_wp2_with (fail)
  go_loopw [19, 8] (fun i cr wr => ∃ (j k : Nat) (O : List Nat), j ≤ m ∧ i = .int .i64 (j : Int) ∧ cr = .int .u64 (k : Int) ∧ k < 18446744073709551616 ∧ O.length = j ∧ (∀ d ∈ O, d < 18446744073709551616) ∧ nv O + k * 18446744073709551616 ^ j = nv (L.take j) * y + c ∧ WB wr g (O ++ C.drop j) ∧ Kept w wr (fun j => j = g) ∧ (∀ l (hl : l < L.length), j ≤ l → wr.cell? ⟨h, l, none⟩ = some (.int .u64 ((L[l] : Nat) : Int)))) (fun i _ _ => m - (intOf i).toNat)
  case atStart => exact ⟨0, c, [], Nat.zero_le _, rfl, rfl, HY.out.2, rfl, (fun d hd => by cases hd), by simp [nv], by simpa using HC.out, Kept.refl _ _, fun l hl _ => HX.out l hl⟩
  case round =>
    obtain ⟨j, k, O, hj, rfl, rfl, hk, hO, hOd, hv, hW, hK, hx⟩ := hrel
    have HK := Go.Lib.hid (And.intro hk (And.intro hO (And.intro hOd (And.intro hv (And.intro hW hK)))))
    have HXX := Go.Lib.hid hx
    clear hk hO hOd hv hW hK hx
    by_cases hjm : j < m
    · have hjL : j < L.length := by rw [HM.out]; exact hjm
      have c0 := HXX.out j hjL (Nat.le_refl _)
      have hd := HL.out _ (List.getElem_mem hjL)
      have HD := Go.Lib.hid hd
      have hnt := nv_take L j hjL
      have HNT := Go.Lib.hid hnt
      clear hd hnt
      obtain ⟨x, hx⟩ : ∃ x, L[j] = x := ⟨_, rfl⟩
      rw [hx] at c0 HD HNT
      clear hx
      have H := mulAdd_any x y k HD.out HY.out.1 HK.out.1 wr
      have hlo : (x * y + k) % 18446744073709551616 < 18446744073709551616 := Nat.mod_lt _ (by decide)
      have hxy : x * y ≤ 18446744073709551615 * 18446744073709551615 := Nat.mul_le_mul (by have := HD.out; omega) (by have := HY.out.1; omega)
      have hhi : (x * y + k) / 18446744073709551616 < 18446744073709551616 := by have := HK.out.1; omega
      have hstep := mul_step (x := x) (B := 18446744073709551616) HK.out.2.2.2.1
      rw [← HNT.out] at hstep
      generalize (x * y + k) % 18446744073709551616 = lo at *
      generalize (x * y + k) / 18446744073709551616 = hi at *
      have HH := Go.Lib.hid H
      have HS := Go.Lib.hid (And.intro hlo (And.intro hhi hstep))
      clear H hlo hhi hstep hxy
      have hWc := HK.out.2.2.2.2.1
      have hlen : j < (O ++ C.drop j).length := by rw [List.length_append, HK.out.2.1, List.length_drop]; have := HMC.out; omega
      have z0 := hWc.cellAt j hlen
      have f0 := hWc.frozenAt j
      obtain ⟨zz, hzz⟩ : ∃ zz, (O ++ C.drop j)[j] = zz := ⟨_, rfl⟩
      rw [hzz] at z0
      clear hzz hWc
      go_wp2_with (fail)
      refine HH.out.mono ?_
      rintro e w1 ⟨rfl, hw⟩
      replace hw := hw.symm
      subst hw
      go_wp2_with (fail)
      go_roundw
      case rel =>
        refine ⟨j + 1, hi, O ++ [lo], hjm, by simp, rfl, HS.out.2.1, by simp [HK.out.2.1], fun d hd => ?_, ?_, ?_, HK.out.2.2.2.2.2.setCell (p := ⟨g, j, none⟩) (.inl rfl) _, fun l hl hjl => ?_⟩
        · rcases List.mem_append.1 hd with hd | hd
          · exact HK.out.2.2.1 d hd
          · simp at hd; subst hd; exact HS.out.1
        · rw [nv_snoc, HK.out.2.1, Nat.pow_succ]
          exact HS.out.2.2
        · have h1 := HK.out.2.2.2.2.1.stored j lo
          have e1 : (O ++ C.drop j).set j lo = O ++ [lo] ++ C.drop (j + 1) := by
            have h2 : C.drop j = C[j]'(by have := HMC.out; omega) :: C.drop (j + 1) := List.drop_eq_getElem_cons _
            rw [h2, List.set_append_right _ _ (by rw [HK.out.2.1]; omega), HK.out.2.1, Nat.sub_self, List.set_cons_zero, List.append_assoc]
            rfl
          rw [e1] at h1
          exact h1
        · rw [World.cell?_setCell_other _ _ _ _ (by intro e; injection e with e1 e2; omega)]
          exact HXX.out l hl (by omega)
      case measure => simp [intOf]; omega
    · obtain rfl : j = m := by omega
      go_wp2
      go_ret
      refine ⟨O, k, rfl, HK.out.1, HK.out.2.1, HK.out.2.2.1, ?_, HK.out.2.2.2.2.1, HK.out.2.2.2.2.2⟩
      have h1 := HK.out.2.2.2.1
      rw [← HM.out, List.take_length] at h1
      rw [← HM.out]
      exact h1
end Go.Proofs.YthmopakaikhjlaaGreatDoor
