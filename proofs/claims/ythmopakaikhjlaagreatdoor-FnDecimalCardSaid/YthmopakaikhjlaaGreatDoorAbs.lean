/- Int.Set, Int.Abs, Int.Neg, Int.Sign. -/
import Derived.Test.YthmopakaikhjlaaGreatDoorIst
import Derived.Test.YthmopakaikhjlaaGreatDoorCpw
import Derived.Test.YthmopakaikhjlaaGreatDoorStp2
import Derived.LaidEqlPtr
namespace Go.Proofs.YthmopakaikhjlaaGreatDoor
open Go.RowKit

theorem under63 : Tryz.prog.underlying 63 = some (.pointer 61) := Tryz.underlying63
theorem info61 : (Tryz.prog.info? 61).map (·.size) = some 2 := by kernel_rfl
theorem ptrNeq_other {a b : Addr} {ca cb : Array Value} {ta tb : TypeId} {w : World} (hne : a ≠ b) (ha : w.heap[a.block]? = some (.cells ca ta (0, 0))) (hb : w.heap[b.block]? = some (.cells cb tb (0, 0))) :
    (binOp .neq 63 (.pointer (some a)) (.pointer (some b))).run Tryz.prog w = .ok (.bool true) w := by
  cases hi : Tryz.prog.info? 61 with
  | none => have h := info61; rw [hi] at h; cases h
  | some j =>
    have hsz : j.size ≠ 0 := by have h := info61; rw [hi] at h; simp at h; omega
    have h : ∀ d : Nat, (Op.equalIn (d + 1) 63 (.pointer (some a)) (.pointer (some b))).run Tryz.prog w = .ok false w := fun d => by
      simp [Op.equalIn, run_underlying under63, sizeOf, typeInfo, hi, hsz, run_sameAddr_other w hne ha hb]
    simp only [binOp]
    simp [Op.equal, Op.maxDepth, h 9999]
theorem ptrNeq_same (a : Addr) (w : World) : (binOp .neq 63 (.pointer (some a)) (.pointer (some a))).run Tryz.prog w = .ok (.bool false) w := by
  cases hi : Tryz.prog.info? 61 with
  | none => have h := info61; rw [hi] at h; cases h
  | some j =>
    have h : ∀ d : Nat, (Op.equalIn (d + 1) 63 (.pointer (some a)) (.pointer (some a))).run Tryz.prog w = .ok true w := fun d => by
      simp [Op.equalIn, run_underlying under63, sizeOf, typeInfo, hi, run_sameAddr_same]
    simp only [binOp]
    simp [Op.equal, Op.maxDepth, h 9999]

set_option maxRecDepth 100000 in
set_option maxHeartbeats 1000000 in
theorem intSet_any (zb xb lo : Nat) (nz nx : Bool) (v : Value) (L : List Nat) (w : World) (hZ : Big w zb nz (.slice none 0 0)) (hX : Big w xb nx v) (hne : zb ≠ xb) (hL : L.length ≤ 3) (hv : Nt w lo v L) (hlo : lo ≤ w.heap.size) :
    Calls Tryz.prog 52 #[.pointer (some ⟨zb, 0, none⟩), .pointer (some ⟨xb, 0, none⟩)] w fun e w' => e = .returned (.pointer (some ⟨zb, 0, none⟩)) ∧ ∃ v', Nt w' lo v' L ∧ Big w' zb nx v' ∧ Kept w w' (fun k => k = zb) ∧ (∀ k, v'.ownBlock = some k → w.heap.size ≤ k) := by
  obtain ⟨cz, tz, bz⟩ := hZ.b
  obtain ⟨cx, tx, bx⟩ := hX.b
  have hpn := ptrNeq_other (a := ⟨zb, 0, none⟩) (b := ⟨xb, 0, none⟩) (fun e => hne (by injection e)) bz bx
  clear bz bx
  have HZ := Go.Lib.hid hZ
  have HX := Go.Lib.hid hX
  have HV := Go.Lib.hid hv
  clear hZ hX hv
  go_enter Tryz.func52, Tryz.ntmps52
  go_upto_region 2 with (fail)
  refine reg_open (S := fun W => W.cell? ⟨xb, 1, none⟩ = some v) 13 #[false, false, false, false, false, false, false, false, false, false, false, false, false] (by kernel_rfl) (by kernel_rfl) (by kernel_rfl) (by intro c a d v w h; cases d <;> exact h) (by kernel_rfl) (fun OPS QQ HO HQ hQP hSel => ?_)
  have hS0 : w.drew.cell? ⟨xb, 1, none⟩ = some v := HX.out.c1
  refine reg_take (i := 0) (oi := ?o_1) (v := ?v_1) (listed' := #[true, false, false, false, false, false, false, false, false, false, false, false, false]) HO ?hi_1 hSel ?hf_1 ?hr_1 hQP (by kernel_rfl) ?hw_1 ?h_1 hS0 ?_
  case hi_1 => (simp only [List.getElem?_toArray, List.getElem?_cons_zero]; rfl)
  case hf_1 => kernel_rfl
  case hr_1 => kernel_rfl
  case hw_1 => rfl
  case h_1 => (intro W hSw; go_simp; first | done | with_reducible rfl)
  (try simp only [Act.put]); (try simp only [List.setIfInBounds_toArray]); (try simp only [List.set_cons_zero]); (try simp only [List.set_cons_succ])
  refine reg_take (i := 1) (oi := ?o_2) (v := ?v_2) (listed' := #[true, true, false, false, false, false, false, false, false, false, false, false, false]) HO ?hi_2 hSel ?hf_2 ?hr_2 hQP (by kernel_rfl) ?hw_2 ?h_2 hS0 ?_
  case hi_2 => (simp only [List.getElem?_toArray, List.getElem?_cons_succ, List.getElem?_cons_zero]; rfl)
  case hf_2 => kernel_rfl
  case hr_2 => kernel_rfl
  case hw_2 => rfl
  case h_2 => (intro W hSw; go_simp; first | done | with_reducible rfl)
  (try simp only [Act.put]); (try simp only [List.setIfInBounds_toArray]); (try simp only [List.set_cons_zero]); (try simp only [List.set_cons_succ])
  refine reg_take (i := 2) (oi := ?o_3) (v := ?v_3) (listed' := #[true, true, true, false, false, false, false, false, false, false, false, false, false]) HO ?hi_3 hSel ?hf_3 ?hr_3 hQP (by kernel_rfl) ?hw_3 ?h_3 hS0 ?_
  case hi_3 => (simp only [List.getElem?_toArray, List.getElem?_cons_succ, List.getElem?_cons_zero]; rfl)
  case hf_3 => kernel_rfl
  case hr_3 => kernel_rfl
  case hw_3 => rfl
  case h_3 => (intro W hSw; go_simp; first | done | with_reducible rfl)
  (try simp only [Act.put]); (try simp only [List.setIfInBounds_toArray]); (try simp only [List.set_cons_zero]); (try simp only [List.set_cons_succ])
  refine reg_take (i := 3) (oi := ?o_4) (v := ?v_4) (listed' := #[true, true, true, true, false, false, false, false, false, false, false, false, false]) HO ?hi_4 hSel ?hf_4 ?hr_4 hQP (by kernel_rfl) ?hw_4 ?h_4 hS0 ?_
  case hi_4 => (simp only [List.getElem?_toArray, List.getElem?_cons_succ, List.getElem?_cons_zero]; rfl)
  case hf_4 => kernel_rfl
  case hr_4 => kernel_rfl
  case hw_4 => rfl
  case h_4 => (intro W hSw; go_simp; first | done | with_reducible rfl)
  (try simp only [Act.put]); (try simp only [List.setIfInBounds_toArray]); (try simp only [List.set_cons_zero]); (try simp only [List.set_cons_succ])
  refine reg_take (i := 5) (oi := ?o_5) (v := ?v_5) (listed' := #[true, true, true, true, false, true, false, false, false, false, false, false, false]) HO ?hi_5 hSel ?hf_5 ?hr_5 hQP (by kernel_rfl) ?hw_5 ?h_5 hS0 ?_
  case hi_5 => (simp only [List.getElem?_toArray, List.getElem?_cons_succ, List.getElem?_cons_zero]; rfl)
  case hf_5 => kernel_rfl
  case hr_5 => kernel_rfl
  case hw_5 => rfl
  case h_5 => (intro W hSw; go_simp; first | done | with_reducible rfl)
  (try simp only [Act.put]); (try simp only [List.setIfInBounds_toArray]); (try simp only [List.set_cons_zero]); (try simp only [List.set_cons_succ])
  refine reg_take (i := 6) (oi := ?o_6) (v := ?v_6) (listed' := #[true, true, true, true, false, true, true, false, false, false, false, false, false]) HO ?hi_6 hSel ?hf_6 ?hr_6 hQP (by kernel_rfl) ?hw_6 ?h_6 hS0 ?_
  case hi_6 => (simp only [List.getElem?_toArray, List.getElem?_cons_succ, List.getElem?_cons_zero]; rfl)
  case hf_6 => kernel_rfl
  case hr_6 => kernel_rfl
  case hw_6 => rfl
  case h_6 => (intro W hSw; go_simp; first | done | with_reducible rfl)
  (try simp only [Act.put]); (try simp only [List.setIfInBounds_toArray]); (try simp only [List.set_cons_zero]); (try simp only [List.set_cons_succ])
  refine reg_take (i := 7) (oi := ?o_7) (v := ?v_7) (listed' := #[true, true, true, true, false, true, true, true, false, false, false, false, false]) HO ?hi_7 hSel ?hf_7 ?hr_7 hQP (by kernel_rfl) ?hw_7 ?h_7 hS0 ?_
  case hi_7 => (simp only [List.getElem?_toArray, List.getElem?_cons_succ, List.getElem?_cons_zero]; rfl)
  case hf_7 => kernel_rfl
  case hr_7 => kernel_rfl
  case hw_7 => rfl
  case h_7 => (intro W hSw; go_simp; first | done | with_reducible rfl)
  (try simp only [Act.put]); (try simp only [List.setIfInBounds_toArray]); (try simp only [List.set_cons_zero]); (try simp only [List.set_cons_succ])
  refine reg_take (i := 8) (oi := ?o_8) (v := ?v_8) (listed' := #[true, true, true, true, false, true, true, true, true, false, false, false, false]) HO ?hi_8 hSel ?hf_8 ?hr_8 hQP (by kernel_rfl) ?hw_8 ?h_8 hS0 ?_
  case hi_8 => (simp only [List.getElem?_toArray, List.getElem?_cons_succ, List.getElem?_cons_zero]; rfl)
  case hf_8 => kernel_rfl
  case hr_8 => kernel_rfl
  case hw_8 => rfl
  case h_8 => (intro W hSw; go_simp; first | done | with_reducible rfl)
  (try simp only [Act.put]); (try simp only [List.setIfInBounds_toArray]); (try simp only [List.set_cons_zero]); (try simp only [List.set_cons_succ])
  have hz1 : w.drew.cell? ⟨zb, 1, none⟩ = some (.slice none 0 0) := HZ.out.c1
  refine reg_one (i := 4) (o := ?o_9) (listed' := #[true, true, true, true, true, true, true, true, true, false, false, false, false]) HO ?hi_9 ?hr_9 (by kernel_rfl) ?hw_9 (fun K hK => ?_)
  case hi_9 => (simp only [List.getElem?_toArray, List.getElem?_cons_succ, List.getElem?_cons_zero]; rfl)
  case hr_9 => kernel_rfl
  case hw_9 => rfl
  go_simp
  refine hK.out _ _ hS0 (fun _ => ?_)
  clear hK K hz1
  refine reg_one (i := 9) (o := ?o_10) (listed' := #[true, true, true, true, true, true, true, true, true, true, false, false, false]) HO ?hi_10 ?hr_10 (by kernel_rfl) ?hw_10 (fun K hK => ?_)
  case hi_10 => (simp only [List.getElem?_toArray, List.getElem?_cons_succ, List.getElem?_cons_zero]; rfl)
  case hr_10 => kernel_rfl
  case hw_10 => rfl
  go_simp
  refine (natSet_any lo v L w.drew (HV.out.fresh ((Kept.refl w _).drew)) hL hlo).mono ?_
  rintro e w2 ⟨v', rfl, hv', hF2, hbk⟩
  obtain ⟨A', c', rfl, hc'⟩ := hv'.slice
  have hF : Fresh w w2 := ((Kept.refl w (fun _ => False)).drew).trans hF2 (fun _ _ h => h)
  have hX2 := HX.out.kept hF (fun h => h)
  have hZ2 := HZ.out.kept hF (fun h => h)
  have hS1 : w2.cell? ⟨xb, 1, none⟩ = some v := hX2.c1
  refine hK.out _ _ hS1 (fun _ => ?_)
  have H2 := Go.Lib.hid (And.intro hv' (And.intro hbk hF))
  clear hK K hS0 hF2 hv' hbk hF
  refine reg_take (i := 10) (oi := ?o_11) (v := ?v_11) (listed' := #[true, true, true, true, true, true, true, true, true, true, true, false, false]) HO ?hi_11 hSel ?hf_11 ?hr_11 hQP (by kernel_rfl) ?hw_11 ?h_11 hS1 ?_
  case hi_11 => (simp only [List.getElem?_toArray, List.getElem?_cons_succ, List.getElem?_cons_zero]; rfl)
  case hf_11 => kernel_rfl
  case hr_11 => kernel_rfl
  case hw_11 => rfl
  case h_11 => (intro W hSw; go_simp; first | done | with_reducible rfl)
  (try simp only [Act.put]); (try simp only [List.setIfInBounds_toArray]); (try simp only [List.set_cons_zero]); (try simp only [List.set_cons_succ])
  refine reg_take (i := 11) (oi := ?o_12) (v := ?v_12) (listed' := #[true, true, true, true, true, true, true, true, true, true, true, true, false]) HO ?hi_12 hSel ?hf_12 ?hr_12 hQP (by kernel_rfl) ?hw_12 ?h_12 hS1 ?_
  case hi_12 => (simp only [List.getElem?_toArray, List.getElem?_cons_succ, List.getElem?_cons_zero]; rfl)
  case hf_12 => kernel_rfl
  case hr_12 => kernel_rfl
  case hw_12 => rfl
  case h_12 => (intro W hSw; go_simp; first | done | with_reducible rfl)
  (try simp only [Act.put]); (try simp only [List.setIfInBounds_toArray]); (try simp only [List.set_cons_zero]); (try simp only [List.set_cons_succ])
  have hz1 := hZ2.c1
  have fz := hZ2.f 1
  refine reg_one (i := 12) (o := ?o_13) (listed' := #[true, true, true, true, true, true, true, true, true, true, true, true, true]) HO ?hi_13 ?hr_13 (by kernel_rfl) ?hw_13 (fun K hK => ?_)
  case hi_13 => (simp only [List.getElem?_toArray, List.getElem?_cons_succ, List.getElem?_cons_zero]; rfl)
  case hr_13 => kernel_rfl
  case hw_13 => rfl
  go_simp
  have hZ3 := hZ2.set1 (.slice A' L.length c')
  have hX3 := hX2.kept ((Kept.refl w2 (fun k => k = zb)).setCell (p := ⟨zb, 1, none⟩) (.inl rfl) (.slice A' L.length c')) (fun e => hne e.symm)
  have hK3 := (H2.out.2.2.mono (S := fun k => k = zb) (fun _ _ h => h.elim)).setCell (p := ⟨zb, 1, none⟩) (.inl rfl) (.slice A' L.length c')
  refine hK.out _ _ hX3.c1 (fun _ => ?_)
  clear hK K hz1 fz hS1 hX2 hZ2
  have hv3 := H2.out.1.kept ((Kept.refl w2 (fun k => k = zb)).setCell (p := ⟨zb, 1, none⟩) (.inl rfl) (.slice A' L.length c')) (fun k hk e => by have h1 := H2.out.2.1 k hk; have h2 := HZ.out.lt; rw [show w.drew.heap.size = w.heap.size from rfl] at h1; omega)
  generalize w2.setCell ⟨zb, 1, none⟩ (.slice A' L.length c') = w3 at *
  refine reg_done HO HQ (by kernel_rfl) ?_
  have HZ3 := Go.Lib.hid (And.intro hZ3 (And.intro hX3 (And.intro hK3 hv3)))
  clear HO HQ hQP hSel hZ3 hX3 hK3 hv3
  have c1 := HZ3.out.2.1.c0
  have c2 := HZ3.out.1.c0
  have f2 := HZ3.out.1.f 0
  go_wp2_with (fail)
  go_ret
  refine ⟨rfl, _, HZ3.out.2.2.2.kept ((Kept.refl w3 (fun k => k = zb)).setCell (p := ⟨zb, 0, none⟩) (.inl rfl) (.bool nx)) (fun k hk e => by have h1 := H2.out.2.1 k hk; have h2 := HZ.out.lt; rw [show w.drew.heap.size = w.heap.size from rfl] at h1; omega), HZ3.out.1.set0 nx, HZ3.out.2.2.1.setCell (p := ⟨zb, 0, none⟩) (.inl rfl) (.bool nx), H2.out.2.1⟩

set_option maxRecDepth 100000 in
set_option maxHeartbeats 1000000 in
theorem abs_any (zb xb lo : Nat) (nz nx : Bool) (v : Value) (L : List Nat) (w : World) (hZ : Big w zb nz (.slice none 0 0)) (hX : Big w xb nx v) (hne : zb ≠ xb) (hL : L.length ≤ 3) (hv : Nt w lo v L) (hlo : lo ≤ w.heap.size) :
    Calls Tryz.prog 33 #[.pointer (some ⟨zb, 0, none⟩), .pointer (some ⟨xb, 0, none⟩)] w fun e w' => e = .returned (.pointer (some ⟨zb, 0, none⟩)) ∧ ∃ v', Nt w' lo v' L ∧ Big w' zb false v' ∧ Kept w w' (fun k => k = zb) := by
  have hzl := hZ.lt
  have H := Go.Lib.hid (intSet_any zb xb lo nz nx v L w hZ hX hne hL hv hlo)
  clear hZ hX hv
  go_enter Tryz.func33, Tryz.ntmps33
  go_wp2_with (fail)
  refine H.out.mono ?_
  rintro e w1 ⟨rfl, v', hv', hZ', hK, hbk⟩
  have HA := Go.Lib.hid (And.intro hv' (And.intro hZ' (And.intro hK hbk)))
  have c0 := hZ'.c0
  have f0 := hZ'.f 0
  clear hv' hZ' hK hbk
  go_wp2
  go_ret
  exact ⟨rfl, v', HA.out.1.kept ((Kept.refl w1 (fun k => k = zb)).setCell (p := ⟨zb, 0, none⟩) (.inl rfl) (.bool false)) (fun k hk e => by have h1 := HA.out.2.2.2 k hk; omega), HA.out.2.1.set0 false, HA.out.2.2.1.setCell (p := ⟨zb, 0, none⟩) (.inl rfl) (.bool false)⟩

set_option maxRecDepth 100000 in
set_option maxHeartbeats 1000000 in
theorem setSame_any (zb : Nat) (w : World) : Calls Tryz.prog 52 #[.pointer (some ⟨zb, 0, none⟩), .pointer (some ⟨zb, 0, none⟩)] w fun e w' => e = .returned (.pointer (some ⟨zb, 0, none⟩)) ∧ w' = w := by
  have hpn := ptrNeq_same ⟨zb, 0, none⟩
  go_enter Tryz.func52, Tryz.ntmps52
  go_wp2
  go_ret
  exact ⟨rfl, rfl⟩

set_option maxRecDepth 100000 in
set_option maxHeartbeats 1000000 in
theorem neg_any (zb : Nat) (A : Option Addr) (n c : Nat) (w : World) (hZ : Big w zb false (.slice A n c)) (hn : 0 < n) :
    Calls Tryz.prog 51 #[.pointer (some ⟨zb, 0, none⟩), .pointer (some ⟨zb, 0, none⟩)] w fun e w' => e = .returned (.pointer (some ⟨zb, 0, none⟩)) ∧ Big w' zb true (.slice A n c) ∧ Kept w w' (fun k => k = zb) := by
  have HZ := Go.Lib.hid hZ
  have c0 := hZ.c0
  have c1 := hZ.c1
  have f0 := hZ.f 0
  have i1 : (0 : Int) < (n : Int) := by omega
  have d1 : decide ((0 : Int) < (n : Int)) = true := by simpa using hn
  have d2 : decide (0 < n) = true := by simpa using hn
  clear hZ
  go_enter Tryz.func51, Tryz.ntmps51
  go_wp2_with (fail)
  refine (setSame_any zb w).mono ?_
  rintro e w1 ⟨rfl, hw⟩
  replace hw := hw.symm
  subst hw
  go_wp2
  go_ret
  exact ⟨rfl, HZ.out.set0 true, (Kept.refl w (fun k => k = zb)).setCell (p := ⟨zb, 0, none⟩) (.inl rfl) (.bool true)⟩

set_option maxRecDepth 100000 in
theorem sign_zero (xb : Nat) (neg : Bool) (A : Option Addr) (c : Nat) (w : World) (hX : Big w xb neg (.slice A 0 c)) : Calls Tryz.prog 48 #[.pointer (some ⟨xb, 0, none⟩)] w fun e w' => e = .returned (.int .i64 0) ∧ w' = w := by
  have c1 := hX.c1
  clear hX
  go_enter Tryz.func48, Tryz.ntmps48
  go_wp2
  go_ret
  exact ⟨rfl, rfl⟩
set_option maxRecDepth 100000 in
theorem sign_some (xb : Nat) (neg : Bool) (A : Option Addr) (n c : Nat) (w : World) (hX : Big w xb neg (.slice A n c)) (hn : 0 < n) : Calls Tryz.prog 48 #[.pointer (some ⟨xb, 0, none⟩)] w fun e w' => e = .returned (.int .i64 (if neg then -1 else 1)) ∧ w' = w := by
  have c0 := hX.c0
  have c1 := hX.c1
  have i1 : ((n : Int) == 0) = false := by simp; omega
  have i2 : (n == 0) = false := by simp; omega
  have i3 : ¬ n = 0 := by omega
  clear hX
  cases neg with
  | true =>
    go_enter Tryz.func48, Tryz.ntmps48
    go_wp2
    go_ret
    exact ⟨rfl, rfl⟩
  | false =>
    go_enter Tryz.func48, Tryz.ntmps48
    go_wp2
    go_ret
    exact ⟨rfl, rfl⟩
end Go.Proofs.YthmopakaikhjlaaGreatDoor
