/- nat.make, nat.norm, nat.setWord, nat.mulAddWW, pow, maxPow. -/
import Derived.Test.YthmopakaikhjlaaGreatDoorWd
import Derived.Deep.QuietTactic
import Derived.BigQuiet
namespace Go.Proofs.YthmopakaikhjlaaGreatDoor
open Go.RowKit

set_option maxRecDepth 100000 in
theorem make_old (A : Option Addr) (n0 cap n : Nat) (h : n ≤ cap) (_ : n ≤ 1000) (w : World) : Calls Tryz.prog 67 #[.slice A n0 cap, .int .i64 n] w fun e w' => e = .returned (.slice A n cap) ∧ w' = w := by
  have i1 : (n : Int) ≤ (cap : Int) := by omega
  rename_i h0; clear h0
  go_enter Tryz.func67, Tryz.ntmps67
  go_wp2
  go_ret
  exact ⟨rfl, rfl⟩

theorem made2 (w : World) : (Instr.makeSlice 59 (.int .i64 2) (.int .i64 6)).run Tryz.prog w = .ok (.slice (some ⟨w.heap.size, 0, none⟩) 2 6) (w.alloc (.cells (ints .u64 [0, 0, 0, 0, 0, 0]).toArray 102)) := by kernel_rfl
theorem made3 (w : World) : (Instr.makeSlice 59 (.int .i64 3) (.int .i64 7)).run Tryz.prog w = .ok (.slice (some ⟨w.heap.size, 0, none⟩) 3 7) (w.alloc (.cells (ints .u64 [0, 0, 0, 0, 0, 0, 0]).toArray 102)) := by kernel_rfl
theorem made1 (w : World) : (Instr.makeSlice 59 (.int .i64 1) (.int .i64 1)).run Tryz.prog w = .ok (.slice (some ⟨w.heap.size, 0, none⟩) 1 1) (w.alloc (.cells (ints .u64 [0]).toArray 102)) := by kernel_rfl

set_option maxRecDepth 100000 in
theorem make_new (A : Option Addr) (n0 cap n : Nat) (h : cap < n) (h3 : n ≤ 3) (w : World) : Calls Tryz.prog 67 #[.slice A n0 cap, .int .i64 n] w fun e w' => ∃ z, e = .returned (.slice (some ⟨w.heap.size, 0, none⟩) n (n + z)) ∧ WB w' w.heap.size (List.replicate (n + z) 0) ∧ Fresh w w' := by
  have m1 := made1
  have m2 := made2
  have m3 := made3
  have hal : ∀ C, WB (w.alloc (.cells (ints .u64 C).toArray 102)) w.heap.size C := fun C => heap_alloc_new w _
  have hfr : ∀ o, Fresh w (w.alloc o) := fun o => (Kept.refl w _).alloc o
  obtain rfl | rfl | rfl : n = 1 ∨ n = 2 ∨ n = 3 := by omega
  · have i1 : ¬ (1 : Int) ≤ (cap : Int) := by omega
    have i2 : ¬ 1 ≤ cap := by omega
    go_enter Tryz.func67, Tryz.ntmps67
    go_wp2
    go_ret
    exact ⟨0, rfl, hal _, hfr _⟩
  · have i1 : ¬ (2 : Int) ≤ (cap : Int) := by omega
    have i2 : ¬ 2 ≤ cap := by omega
    go_enter Tryz.func67, Tryz.ntmps67
    go_wp2
    go_ret
    exact ⟨4, rfl, hal _, hfr _⟩
  · have i1 : ¬ (3 : Int) ≤ (cap : Int) := by omega
    have i2 : ¬ 3 ≤ cap := by omega
    go_enter Tryz.func67, Tryz.ntmps67
    go_wp2
    go_ret
    exact ⟨4, rfl, hal _, hfr _⟩

/-- The words without the noughts at the top. -/
def Top (L : List Nat) : Prop := ∀ h : L ≠ [], L.getLast h ≠ 0

theorem nv_drop_zero (L : List Nat) (i : Nat) (h : i < L.length) (h0 : L[i] = 0) : nv (L.take (i + 1)) = nv (L.take i) := by
  rw [nv_take L i h, h0, Nat.zero_mul, Nat.add_zero]

set_option maxRecDepth 100000 in
set_option maxHeartbeats 1000000 in
theorem norm_any (g n c : Nat) (C : List Nat) (w : World) (hC : WB w g C) (hn : n ≤ C.length) (hnc : n ≤ c) (h9 : n ≤ 100) (_ : ∀ d ∈ C.take n, d < 18446744073709551616) :
    Calls Tryz.prog 69 #[.slice (some ⟨g, 0, none⟩) n c] w fun e w' => ∃ m, e = .returned (.slice (some ⟨g, 0, none⟩) m c) ∧ m ≤ n ∧ nv (C.take m) = nv (C.take n) ∧ Top (C.take m) ∧ w' = w := by
  have HC := Go.Lib.hid hC
  have HN := Go.Lib.hid hn
  rename_i hL; clear hC hn hL
  go_enter Tryz.func69, Tryz.ntmps69
  go_wp2_with (fail)
  go_loopw [3] (fun i wr => ∃ m, m ≤ n ∧ i = .int .i64 (m : Int) ∧ nv (C.take m) = nv (C.take n) ∧ wr = w) (fun i _ => (intOf i).toNat)
  case atStart => exact ⟨n, Nat.le_refl _, rfl, rfl, rfl⟩
  case round =>
    obtain ⟨m, hm, rfl, hv, hw⟩ := hrel
    replace hw := hw.symm
    subst hw
    have HV := Go.Lib.hid hv
    clear hv
    by_cases h0 : 0 < m
    · have hml : m - 1 < C.length := by have := HN.out; omega
      have c0 := HC.out.cellAt (m - 1) hml
      have hz : nv (C.take (m - 1 + 1)) = nv (C.take (m - 1)) + C[m - 1] * 18446744073709551616 ^ (m - 1) := nv_take C (m - 1) hml
      have e1 : m - 1 + 1 = m := by omega
      rw [e1] at hz
      have HZ := Go.Lib.hid hz
      have hlast : ∀ x, C[m - 1] = x → x ≠ 0 → Top (C.take m) := by
        intro x hx hx0 hne
        have hl : (C.take m).length = m := by rw [List.length_take]; have := HN.out; omega
        rw [List.getLast_eq_getElem]
        simp only [List.getElem_take, hl]
        rw [hx]
        exact hx0
      have HLA := Go.Lib.hid hlast
      clear hz hlast e1
      obtain ⟨x, hx⟩ : ∃ x, C[m - 1] = x := ⟨_, rfl⟩
      rw [hx] at c0 HZ
      have HXX := Go.Lib.hid hx
      clear hx
      have d0 : decide ((0 : Int) < (m : Int)) = true := by simp; omega
      have d0n : decide (0 < m) = true := by simpa using h0
      have i1 : (m : Int) - 1 < (n : Int) := by omega
      have i2 : (1 : Int) ≤ (m : Int) := by omega
      have i3 : ((m : Int) - 1).toNat = m - 1 := by omega
      have i4 : IntKind.i64.wrap ((m : Int) - 1) = (m : Int) - 1 := IntWalk.i64_in _ (by omega)
      by_cases hx0 : x = 0
      · subst hx0
        go_wp2_with (fail)
        go_roundw
        case rel =>
          refine ⟨m - 1, by omega, by congr 1; omega, ?_, trivial⟩
          rw [← HV.out, HZ.out]
          simp
        case measure => simp [intOf]; omega
      · have hxb : ((x : Int) == 0) = false := by simp; omega
        have hxn : (x == 0) = false := by simp; omega
        have i5 : (0 : Int) ≤ (m : Int) := by omega
        have i6 : (m : Int) ≤ (c : Int) := by omega
        go_wp2_with (fail)
        go_ret
        exact ⟨m, rfl, hm, HV.out, HLA.out x HXX.out hx0, rfl⟩
    · obtain rfl : m = 0 := by omega
      go_wp2_with (fail)
      go_ret
      exact ⟨0, rfl, Nat.zero_le _, HV.out, fun h => absurd rfl h, rfl⟩

/-- v is a number's words L: nil, or the head of a block that lies from lo on. -/
def Nt (w : World) (lo : Nat) (v : Value) (L : List Nat) : Prop :=
  ((v = .slice none 0 0 ∧ L = []) ∨ ∃ g C n, v = .slice (some ⟨g, 0, none⟩) n C.length ∧ lo ≤ g ∧ WB w g C ∧ n ≤ C.length ∧ L = C.take n) ∧ ∀ d ∈ L, d < 18446744073709551616

theorem Nt.kept {w w' : World} {lo : Nat} {v : Value} {L : List Nat} {S : Nat → Prop} (h : Nt w lo v L) (hk : Kept w w' S) (hS : ∀ k, v.ownBlock = some k → ¬ S k) : Nt w' lo v L := by
  refine ⟨?_, h.2⟩
  rcases h.1 with h0 | ⟨g, C, n, rfl, h1, h2, h3⟩
  · exact .inl h0
  · exact .inr ⟨g, C, n, rfl, h1, h2.kept hk (hS g rfl), h3⟩
theorem Nt.fresh {w w' : World} {lo : Nat} {v : Value} {L : List Nat} (h : Nt w lo v L) (hk : Fresh w w') : Nt w' lo v L := h.kept hk (fun _ _ h => h)
theorem Nt.block {w : World} {lo : Nat} {v : Value} {L : List Nat} (h : Nt w lo v L) : ∀ k, v.ownBlock = some k → lo ≤ k ∧ k < w.heap.size := by
  rcases h.1 with ⟨rfl, _⟩ | ⟨g, C, n, rfl, h1, h2, h3⟩
  · intro k hk; cases hk
  · intro k hk
    have : g = k := Option.some.inj hk
    subst this
    exact ⟨h1, h2.lt⟩
theorem Nt.slice {w : World} {lo : Nat} {v : Value} {L : List Nat} (h : Nt w lo v L) : ∃ A c, v = .slice A L.length c ∧ L.length ≤ c := by
  rcases h.1 with ⟨rfl, rfl⟩ | ⟨g, C, n, rfl, h1, h2, h3, rfl⟩
  · exact ⟨none, 0, rfl, Nat.le_refl _⟩
  · exact ⟨_, _, by rw [List.length_take, Nat.min_eq_left h3], by rw [List.length_take]; omega⟩
theorem Nt.nil (w : World) (lo : Nat) : Nt w lo (.slice none 0 0) [] := ⟨.inl ⟨rfl, rfl⟩, fun d hd => by cases hd⟩

/-- z.make(n): a block with room for n words. -/
theorem make_any (lo n : Nat) (v : Value) (L : List Nat) (w : World) (h : Nt w lo v L) (h1 : 1 ≤ n) (h3 : n ≤ 3) (hlo : lo ≤ w.heap.size) : Calls Tryz.prog 67 #[v, .int .i64 n] w fun e w' => ∃ g C, e = .returned (.slice (some ⟨g, 0, none⟩) n C.length) ∧ lo ≤ g ∧ n ≤ C.length ∧ WB w' g C ∧ Fresh w w' ∧ (v.ownBlock = some g ∨ w.heap.size ≤ g) := by
  rcases h.1 with ⟨rfl, _⟩ | ⟨g, C, m, rfl, hg, hW, hm, _⟩
  · refine (make_new none 0 0 n (by omega) h3 w).mono ?_
    rintro e w' ⟨z, rfl, hW, hF⟩
    exact ⟨_, List.replicate (n + z) 0, by simp, hlo, by simp, hW, hF, .inr (Nat.le_refl _)⟩
  · by_cases hc : n ≤ C.length
    · refine (make_old _ m C.length n hc (by omega) w).mono ?_
      rintro e w' ⟨rfl, rfl⟩
      exact ⟨g, C, rfl, hg, hc, hW, Kept.refl _ _, .inl rfl⟩
    · refine (make_new _ m C.length n (by omega) h3 w).mono ?_
      rintro e w' ⟨z, rfl, hW, hF⟩
      exact ⟨_, List.replicate (n + z) 0, by simp, hlo, by simp, hW, hF, .inr (Nat.le_refl _)⟩

set_option maxRecDepth 100000 in
set_option maxHeartbeats 1000000 in
theorem setWord_any (lo x : Nat) (v : Value) (L : List Nat) (w : World) (h : Nt w lo v L) (hlo : lo ≤ w.heap.size) (hx : x < 18446744073709551616) :
    Calls Tryz.prog 98 #[v, .int .u64 x] w fun e w' => ∃ v', e = .returned v' ∧ Nt w' lo v' (if x = 0 then [] else [x]) ∧ Kept w w' (fun k => v.ownBlock = some k) ∧ Moved w v v' := by
  obtain ⟨A, c, hv, hc⟩ := h.slice
  by_cases h0 : x = 0
  · subst h0
    rw [if_pos rfl]
    have hr : Nt w lo (.slice A 0 c) [] := by
      refine ⟨?_, fun d hd => by cases hd⟩
      rcases h.1 with ⟨h1, h2⟩ | ⟨g, C, m, h1, hg, hW, hm, _⟩
      · rw [hv] at h1; injection h1 with q1 q2 q3; subst q1; subst q3; exact .inl ⟨rfl, rfl⟩
      · rw [hv] at h1; injection h1 with q1 q2 q3; subst q1; subst q3; exact .inr ⟨g, C, 0, rfl, hg, hW, Nat.zero_le _, rfl⟩
    have HR := Go.Lib.hid hr
    have hmv : Moved w v (.slice A 0 c) := by rw [hv]; intro k hk; left; cases A <;> exact hk
    have HMV := Go.Lib.hid hmv
    subst hv
    clear hr hmv h
    generalize L.length = n at *
    go_enter Tryz.func98, Tryz.ntmps98
    go_wp2
    go_ret
    exact ⟨_, rfl, HR.out, Kept.refl _ _, HMV.out⟩
  · rw [if_neg h0]
    have H := make_any lo 1 v L w h (by omega) (by omega) hlo
    rw [show ((1 : Nat) : Int) = 1 from rfl] at H
    have HM := Go.Lib.hid H
    have hb0 : ((x : Int) == 0) = false := by simp; omega
    have hb1 : (x == 0) = false := by simp; omega
    have HX := Go.Lib.hid hx
    clear H h hx h0 hv hc
    go_enter Tryz.func98, Tryz.ntmps98
    go_wp2_with (fail)
    refine HM.out.mono ?_
    rintro e w1 ⟨g, C, rfl, hg, hl, hW, hF, hgv⟩
    have c0 := hW.cellAt 0 (by omega)
    have f0 := hW.frozenAt 0
    have HW := Go.Lib.hid (And.intro hg (And.intro hl (And.intro hW (And.intro hF hgv))))
    obtain ⟨zz, hzz⟩ : ∃ zz, C[0] = zz := ⟨_, rfl⟩
    rw [hzz] at c0
    clear hg hl hW hF hgv hzz
    obtain ⟨cl, hcl⟩ : ∃ cl, C.length = cl := ⟨_, rfl⟩
    rw [hcl] at HW ⊢
    have i1 : 0 < cl := by have := HW.out.2.1; omega
    have HCL := Go.Lib.hid hcl
    clear hcl
    go_wp2_with (fail)
    go_ret
    have h1 := HW.out.2.2.1.stored 0 x
    refine ⟨_, rfl, ⟨.inr ⟨g, C.set 0 x, 1, by rw [List.length_set, HCL.out]; rfl, HW.out.1, h1, by rw [List.length_set, HCL.out]; exact HW.out.2.1, ?_⟩, fun d hd => by simp at hd; subst hd; exact HX.out⟩, ?_, fun k hk => ?_⟩
    · cases C with
      | nil => have := HW.out.2.1; have := HCL.out; simp at this; omega
      | cons a C => simp
    · have hk := (HW.out.2.2.2.1.mono (S := fun k => v.ownBlock = some k) (fun _ _ h => h.elim)).setCell (p := ⟨g, 0, none⟩) (by rcases HW.out.2.2.2.2 with h | h; exact .inl h; exact .inr h) (.int .u64 (x : Int))
      exact hk
    · have : g = k := Option.some.inj hk
      subst this
      rcases HW.out.2.2.2.2 with h | h
      · exact .inl h
      · exact .inr h

set_option maxRecDepth 100000 in
theorem mulRow2_any (g h m cz cx y c : Nat) (L C : List Nat) (w : World) (hC : WB w g C) (hm : L.length = m) (hmC : m ≤ C.length) (hmz : m ≤ cz) (hmx : m ≤ cx) (hm9 : m ≤ 100) (hL : ∀ d ∈ L, d < 18446744073709551616)
    (hx : ∀ j (hj : j < L.length), w.cell? ⟨h, j, none⟩ = some (.int .u64 ((L[j] : Nat) : Int))) (hy : y < 18446744073709551616) (hc : c < 18446744073709551616) :
    Calls Tryz.prog 99 #[.slice (some ⟨g, 0, none⟩) m cz, .slice (some ⟨h, 0, none⟩) m cx, .int .u64 y, .int .u64 c] w fun e w' => ∃ (O : List Nat) (k : Nat), e = .returned (.int .u64 (k : Int)) ∧ k < 18446744073709551616 ∧ O.length = m ∧ (∀ d ∈ O, d < 18446744073709551616) ∧ nv O + k * 18446744073709551616 ^ m = nv L * y + c ∧ WB w' g (O ++ C.drop m) ∧ Kept w w' (fun j => j = g) := by
  have H := mulRow_any g h m cz cx y c L C w hC hm hmC hmz hmx hm9 hL hx hy hc
  have HH := Go.Lib.hid H
  clear H hC hm hmC hL hx hy hc
  go_enter Tryz.func99, Tryz.ntmps99
  go_wp2_with (fail)
  refine HH.out.mono ?_
  rintro e w1 ⟨O, k, rfl, h1, h2, h3, h4, h5, h6⟩
  have HA := Go.Lib.hid (And.intro h1 (And.intro h2 (And.intro h3 (And.intro h4 (And.intro h5 h6)))))
  clear h1 h2 h3 h4 h5 h6
  go_wp2
  go_ret
  exact ⟨O, k, rfl, HA.out.1, HA.out.2.1, HA.out.2.2.1, HA.out.2.2.2.1, HA.out.2.2.2.2.1, HA.out.2.2.2.2.2⟩

set_option maxRecDepth 100000 in
set_option maxHeartbeats 1000000 in
theorem mulAddWW_any (lo y r : Nat) (v : Value) (L : List Nat) (w : World) (h : Nt w lo v L) (hlo : lo ≤ w.heap.size) (h2 : L.length ≤ 2) (hy : y < 18446744073709551616) (hy0 : 0 < y) (hr : r < 18446744073709551616) :
    Calls Tryz.prog 79 #[v, v, .int .u64 y, .int .u64 r] w fun e w' => ∃ v' L', e = .returned v' ∧ Nt w' lo v' L' ∧ nv L' = nv L * y + r ∧ Top L' ∧ L'.length ≤ L.length + 1 ∧ Kept w w' (fun k => v.ownBlock = some k) ∧ Moved w v v' := by
  obtain ⟨A, c, hv, hc⟩ := h.slice
  have hb0 : ((y : Int) == 0) = false := by simp; omega
  have hb1 : (y == 0) = false := by simp; omega
  by_cases hL0 : L = []
  · subst hL0
    have H := setWord_any lo r v [] w h hlo hr
    have hS : ∀ (w' : World) (v' : Value), Nt w' lo v' (if r = 0 then [] else [r]) → ∃ L', Nt w' lo v' L' ∧ nv L' = nv [] * y + r ∧ Top L' ∧ L'.length ≤ ([] : List Nat).length + 1 := by
      intro w' v' hN
      refine ⟨_, hN, ?_, ?_, ?_⟩
      · by_cases h0 : r = 0
        · rw [if_pos h0, h0]; simp [nv]
        · rw [if_neg h0]; simp [nv]
      · by_cases h0 : r = 0
        · rw [if_pos h0]; exact fun h => absurd rfl h
        · rw [if_neg h0]; exact fun _ => by simpa using h0
      · by_cases h0 : r = 0
        · rw [if_pos h0]; simp
        · rw [if_neg h0]; simp
    simp only [List.length_nil] at hv hc
    rw [hv] at H
    have HH := Go.Lib.hid H
    have HS := Go.Lib.hid hS
    subst hv
    clear H hS h hy hy0 hr
    go_enter Tryz.func79, Tryz.ntmps79
    go_wp2_with (fail)
    refine HH.out.mono ?_
    rintro e w1 ⟨v', rfl, hN, hK, hM⟩
    obtain ⟨L', hL1, hL2, hL3, hL4⟩ := HS.out w1 v' hN
    have HA := Go.Lib.hid (And.intro hL1 (And.intro hL2 (And.intro hL3 (And.intro hL4 (And.intro hK hM)))))
    clear hN hL1 hL2 hL3 hL4 hK hM
    go_wp2
    go_ret
    exact ⟨v', L', rfl, HA.out.1, HA.out.2.1, HA.out.2.2.1, HA.out.2.2.2.1, HA.out.2.2.2.2.1, HA.out.2.2.2.2.2⟩
  · rcases h.1 with ⟨_, h1⟩ | ⟨g, C, m, hvg, hg, hW, hm, hLC⟩
    · exact absurd h1 hL0
    have hmL : L.length = m := by rw [hLC, List.length_take]; omega
    have hm0 : 0 < m := by rw [← hmL]; exact List.length_pos_iff.2 hL0
    have H := make_any lo (m + 1) v L w h (by omega) (by omega) hlo
    rw [show (((m + 1 : Nat)) : Int) = (m : Int) + 1 by omega] at H
    have hcx : ∀ W, Fresh w W → ∀ j (hj : j < L.length), W.cell? ⟨g, j, none⟩ = some (.int .u64 ((L[j] : Nat) : Int)) := by
      intro W hF j hj
      have h1 := (hW.fresh hF).cellAt j (by omega)
      have e : L[j] = C[j]'(by omega) := by simp only [hLC, List.getElem_take]
      rw [e]
      exact h1
    have HH := Go.Lib.hid H
    have HCX := Go.Lib.hid hcx
    have HLC := Go.Lib.hid (And.intro hmL (And.intro h.2 (And.intro hm (And.intro hg (And.intro hL0 hm0)))))
    have HY := Go.Lib.hid (And.intro hy (And.intro hy0 hr))
    have i1 : ((m : Int) == 0) = false := by simp; omega
    have i2 : (m == 0) = false := by simp; omega
    have i3 : (m : Int) ≤ 2 := by omega
    generalize hcl : C.length = cl at *
    rw [hvg] at HH
    subst hvg
    clear H h hcx hW hLC hy hy0 hr hcl hv hL0 hmL hm0
    go_enter Tryz.func79, Tryz.ntmps79
    go_wp2_with (fail)
    refine HH.out.mono ?_
    rintro e w1 ⟨g1, C1, rfl, hg1, hl1, hW1, hF1, hgv1⟩
    have H2 := fun (y r : Nat) (hy : y < 18446744073709551616) (hr : r < 18446744073709551616) => mulRow2_any g1 g m C1.length cl y r L C1 w1 hW1 HLC.out.1 (by omega) (by omega) HLC.out.2.2.1 (by omega) HLC.out.2.1 (HCX.out w1 hF1) hy hr
    have HH2 := Go.Lib.hid (H2 y r HY.out.1 HY.out.2.2)
    have HW1 := Go.Lib.hid (And.intro hg1 (And.intro hl1 (And.intro hW1 (And.intro hF1 hgv1))))
    clear H2 hg1 hl1 hW1 hF1 hgv1
    obtain ⟨c1, hc1⟩ : ∃ c1, C1.length = c1 := ⟨_, rfl⟩
    rw [hc1] at HH2 HW1 ⊢
    have HC1 := Go.Lib.hid hc1
    have i4 : (m : Int) < (c1 : Int) := by have := HW1.out.2.1; omega
    clear hc1
    go_wp2_with (fail)
    refine HH2.out.mono ?_
    rintro e w2 ⟨O, k, rfl, hk, hO, hOd, hv, hWB, hK2⟩
    have hC3 : ((O ++ C1.drop m).set m k).length = c1 := by
      rw [List.length_set, List.length_append, List.length_drop, hO, HC1.out]
      omega
    have hmc : m < (O ++ C1.drop m).length := by rw [List.length_set] at hC3; rw [hC3]; omega
    have ht3 : ((O ++ C1.drop m).set m k).take (m + 1) = O ++ [k] := by
      have h1 : C1.drop m = C1[m]'(by rw [HC1.out]; omega) :: C1.drop (m + 1) := List.drop_eq_getElem_cons _
      rw [h1, List.set_append_right _ _ (by rw [hO]; omega), hO, Nat.sub_self, List.set_cons_zero, List.take_append, hO]
      rw [List.take_of_length_le (by rw [hO]; omega), show m + 1 - m = 1 by omega]
      rfl
    have hst := hWB.stored m k
    have hb3 : ∀ d ∈ ((O ++ C1.drop m).set m k).take (m + 1), d < 18446744073709551616 := by
      rw [ht3]
      intro d hd
      rcases List.mem_append.1 hd with hd | hd
      · exact hOd d hd
      · simp at hd; subst hd; exact hk
    have hn3 := norm_any g1 (m + 1) c1 ((O ++ C1.drop m).set m k) _ hst (by rw [hC3]; have := HW1.out.2.1; exact this) (by have := HW1.out.2.1; exact this) (by omega) hb3
    have hnv : nv (((O ++ C1.drop m).set m k).take (m + 1)) = nv L * y + r := by rw [ht3, nv_snoc, hO]; exact hv
    have hKs : Kept w2 (w2.setCell ⟨g1, m, none⟩ (.int .u64 (k : Int))) (fun j => j = g1) := (Kept.refl w2 (fun j => j = g1)).setCell (p := ⟨g1, m, none⟩) (.inl rfl) _
    have z0 := hWB.cellAt m hmc
    have f0 := hWB.frozenAt m
    generalize (O ++ C1.drop m)[m]'hmc = zz at z0
    generalize (O ++ C1.drop m).set m k = C3 at *
    have HN3 := Go.Lib.hid hn3
    have HR := Go.Lib.hid (And.intro hst (And.intro hnv (And.intro (hK2.trans hKs (fun _ _ h => h)) (And.intro hC3 hb3))))
    clear hn3 hst hnv hKs hK2 hC3 hb3 ht3 hmc hWB hv hOd hO hk
    go_wp2_with (fail)
    refine HN3.out.mono ?_
    rintro e w3 ⟨m3, rfl, hm3, hv3, ht3, hw⟩
    replace hw := hw.symm
    subst hw
    have HM3 := Go.Lib.hid (And.intro hm3 (And.intro hv3 ht3))
    clear hm3 hv3 ht3
    go_wp2
    go_ret
    have hml : m3 ≤ C3.length := by have h1 := HR.out.2.2.2.1; have h2 := HM3.out.1; have h3 := HW1.out.2.1; omega
    refine ⟨_, C3.take m3, rfl, ⟨.inr ⟨g1, C3, m3, by rw [HR.out.2.2.2.1]; rfl, HW1.out.1, HR.out.1, hml, rfl⟩, fun d hd => ?_⟩, ?_, HM3.out.2.2, ?_, ?_, ?_⟩
    · refine HR.out.2.2.2.2 d ?_
      have e1 : C3.take m3 = (C3.take (m + 1)).take m3 := by rw [List.take_take, Nat.min_eq_left HM3.out.1]
      rw [e1] at hd
      exact List.mem_of_mem_take hd
    · rw [HM3.out.2.1]; exact HR.out.2.1
    · rw [List.length_take, HLC.out.1]; have := HM3.out.1; omega
    · refine (HW1.out.2.2.2.1.mono (S := fun k => (Value.slice (some ⟨g, 0, none⟩) m cl).ownBlock = some k) (fun _ _ h => h.elim)).trans HR.out.2.2.1 (fun j hj e => ?_)
      rcases HW1.out.2.2.2.2 with h | h
      · rw [e]; exact h
      · omega
    · intro j hj
      have : g1 = j := Option.some.inj hj
      subst this
      exact HW1.out.2.2.2.2
end Go.Proofs.YthmopakaikhjlaaGreatDoor
