/- laws.FnTimes: the main way. (Printed by genlaw3.py.) -/
import Derived.Test.YtahcaoenddapoaaDoorLaw0
import Derived.Test.YtahcaoenddapoaaDoorStp
namespace Go.Proofs.YtahcaoenddapoaaDoor
open Go.RowKit

set_option maxRecDepth 100000 in
set_option maxHeartbeats 0 in
theorem law_good (d N o : Int) (s : Nat) (hs : s ≤ 7) (w : World) (hP : Pw w) : Calls Tryd.prog 3 #[.int .i64 d, .int .i64 N, .int .i64 o, .int .i64 (s : Int)] w fun e w' => e = .returned (.bool true) ∧ Fresh w w' := by
  have hund : undef = Value.tuple #[] := rfl
  have hF0 : Fresh w (w.alloc (.cells #[.bool false, .int .i64 0, .float .f64 0, .string ⟨#[]⟩, .slice none 0 0, .string ⟨#[]⟩, .int .i64 d, .int .i64 N, .int .i64 o] 25)) := (Kept.refl w _).alloc _
  have hV0 := Cel.new w d N o
  have hfl : ∀ (a : Addr) (b : Nat) (m : Mode) (W : World), (store a (.float .f64 b) m).run Tryd.prog W = stored Tryd.prog W a (.float .f64 b) m := fun a b m W => run_store Tryd.prog W a _ m rfl
  have HF0 := Go.Lib.hid hF0
  have HV0 := Go.Lib.hid hV0
  have HP := Go.Lib.hid hP
  clear hF0 hV0 hP
  go_enter Tryd.func3, Tryd.ntmps3
  go_wp2_with (fail)
  refine (columns_good s hs _).mono ?_
  rintro e w1 ⟨rfl, hF1⟩
  have hV1 := HV0.out.fresh hF1
  obtain ⟨W, hWe, k0, k1, k2, k3, hF2⟩ := cols_new w1 (tsz s : Int) (s : Int)
  have hFW := (HF0.out.fresh hF1).fresh hF2
  have hSS : SS w w.heap.size w1.heap.size (tsz s : Int) (s : Int) d N o W := ⟨hV1.fresh hF2, k0, k1, k2, k3, hFW, HP.out.fresh hFW⟩
  have HSS := Go.Lib.hid hSS
  have HWE := Go.Lib.hid hWe
  obtain ⟨c0, c1, c2, c3, c4, c5, c6, c7, c8⟩ := hSS.v
  obtain ⟨x0, x1, x2, x3, x4, x5⟩ := hSS.k3
  clear hV1 k0 k1 k2 k3 hF2 hFW hSS hF1 hWe
  go_upto_region 3 with (fail)
  have hWe := HWE.out
  rw [← hWe]
  clear hWe
  go_wp2_with (fail)
  refine (proper43_any d N o _ s hs _).mono ?_
  rintro e w2 ⟨⟨b, rfl, hb⟩, hF3⟩
  have HSS2 := Go.Lib.hid (HSS.out.fresh hF3)
  clear c0 c1 c2 c3 c4 c5 c6 c7 c8 x0 x1 x2 x3 x4 x5 hF3
  cases b with
  | false =>
    go_wp2_with (fail)
    refine (works_any _).mono ?_
    rintro e w3 ⟨rfl, hF4⟩
    have HF5 := Go.Lib.hid (HSS2.out.fr.fresh hF4)
    clear hF4
    go_wp2
    go_ret
    exact ⟨rfl, HF5.out⟩
  | true =>
    have HB := Go.Lib.hid (hb rfl)
    clear hb
    go_wp2_with (fail)
    obtain ⟨b1, b2, b3, b4, b5⟩ := HB.out
    clear HB
    obtain ⟨dN, rfl⟩ : ∃ m : Nat, d = (m : Int) := ⟨d.toNat, by omega⟩
    obtain ⟨hN0, hN1, _⟩ := dayB_of b3
    obtain ⟨tN, n, E, E4, dd, t4, oo, q1, q2, q3, q4, q5, q6, q7, q8, q9, q10, q11, q12, q13⟩ := nums dN s N o b1 b2 hN0 hN1 b4 b5
    have hd : dN ≤ 3652058 := by omega
    have hu8 : ∀ (a b : Nat), ∀ x ∈ leB a b, x < 256 := leB_lt
    have mk : ∀ {f : Nat} {args : Array Value} {W : World} {l : List Nat}, (Calls Tryd.prog f args W fun e w' => ∃ v, e = .returned v ∧ Row W.heap.size w' v l ∧ Fresh W w') → (Calls Tryd.prog f args W fun e w' => ∃ v, e = .returned v ∧ Bts w' v l ∧ Fresh W w') := fun h => h.mono fun e w' ⟨v, h1, h2, h3⟩ => ⟨v, h1, h2.bts, h3⟩
    obtain ⟨l1, hl1, hA1, hR1⟩ : ∃ l : List Nat, (∀ b ∈ l, b < 256) ∧ (∀ W : World, Pw W → Calls Tryd.prog 7 #[.int .i64 (dN : Int)] W fun e w' => ∃ v, e = .returned v ∧ Bts w' v l ∧ Fresh W w') ∧ (∀ W : World, Calls Tryd.prog 8 #[colv 40 3 0, cellv (dN : Int) N o] W fun e w' => ∃ v, e = .returned v ∧ Bts w' v l ∧ Fresh W w') :=
      ⟨leB dN 3, hu8 _ _, fun W _ => mk (EncodeDate_any dN hd W), fun W => Raw_any 40 3 0 (dN : Int) N o (leB dN 3) (fun w => raw40 (dN : Int) N o 3 0 dN rfl (by omega) w) W⟩
    obtain ⟨l2, hl2, hA2, hR2⟩ : ∃ l : List Nat, (∀ b ∈ l, b < 256) ∧ (∀ W : World, Pw W → Calls Tryd.prog 9 #[.int .i64 N, .int .i64 (s : Int)] W fun e w' => ∃ v, e = .returned v ∧ Bts w' v l ∧ Fresh W w') ∧ (∀ W : World, Calls Tryd.prog 8 #[colv 41 (tsz s : Int) (s : Int), cellv (dN : Int) N o] W fun e w' => ∃ v, e = .returned v ∧ Bts w' v l ∧ Fresh W w') :=
      ⟨leB tN (tsz s), hu8 _ _, fun W hP => mk (EncodeTime_any s tN N hs hN0 hN1 q1 W hP), fun W => Raw_any 41 _ _ (dN : Int) N o _ (fun w => raw41 (dN : Int) N o _ s tN hs hN0 hN1 q1 w) W⟩
    obtain ⟨l3, hl3, hA3, hR3⟩ : ∃ l : List Nat, (∀ b ∈ l, b < 256) ∧ (∀ W : World, Pw W → Calls Tryd.prog 10 #[.int .i64 (dN : Int), .int .i64 N, .int .i64 (s : Int)] W fun e w' => ∃ v, e = .returned v ∧ Bts w' v l ∧ Fresh W w') ∧ (∀ W : World, Calls Tryd.prog 8 #[colv 42 ((tsz s : Int) + 3) (s : Int), cellv (dN : Int) N o] W fun e w' => ∃ v, e = .returned v ∧ Bts w' v l ∧ Fresh W w') :=
      ⟨leB tN (tsz s) ++ leB dN 3, fun b hb => by rcases List.mem_append.1 hb with h | h <;> exact hu8 _ _ b h, fun W hP => mk (EncodeDT2_any dN s tN n E N hd hs hN0 hN1 q4 q2 q5 q3 q6 W hP), fun W => Raw_any 42 _ _ (dN : Int) N o _ (fun w => raw42 (dN : Int) N o _ s tN dN hs rfl (by omega) hN0 hN1 q1 w) W⟩
    obtain ⟨l4, hl4, hA4, hR4⟩ : ∃ l : List Nat, (∀ b ∈ l, b < 256) ∧ (∀ W : World, Pw W → Calls Tryd.prog 11 #[.int .i64 (dN : Int), .int .i64 N, .int .i64 o, .int .i64 (s : Int)] W fun e w' => ∃ v, e = .returned v ∧ Bts w' v l ∧ Fresh W w') ∧ (∀ W : World, Calls Tryd.prog 8 #[colv 43 ((tsz s : Int) + 5) (s : Int), cellv (dN : Int) N o] W fun e w' => ∃ v, e = .returned v ∧ Bts w' v l ∧ Fresh W w') :=
      ⟨leB t4 (tsz s) ++ leB dd 3 ++ leB oo 2, fun b hb => by rcases List.mem_append.1 hb with h | h; rcases List.mem_append.1 h with h | h; exact hu8 _ _ b h; exact hu8 _ _ b h; exact hu8 _ _ b h, fun W hP => mk (EncodeDTO_any dN dd s t4 n E4 oo N o hd hs hN0 hN1 b4 b5 q11 q7 q2 q8 q9 q3 q10 W hP), fun W => Raw_any 43 _ _ (dN : Int) N o _ (fun w => raw43 (dN : Int) N o _ _ s t4 dd oo hs b1 b2 hN0 hN1 b4 b5 rfl q12 q13 q11 w) W⟩
    have HA1 := Go.Lib.hid hA1
    have HA2 := Go.Lib.hid hA2
    have HA3 := Go.Lib.hid hA3
    have HA4 := Go.Lib.hid hA4
    have HR1 := Go.Lib.hid hR1
    have HR2 := Go.Lib.hid hR2
    have HR3 := Go.Lib.hid hR3
    have HR4 := Go.Lib.hid hR4
    have HL1 := Go.Lib.hid hl1
    have HL2 := Go.Lib.hid hl2
    have HL3 := Go.Lib.hid hl3
    have HL4 := Go.Lib.hid hl4
    clear hA1 hA2 hA3 hA4 hR1 hR2 hR3 hR4 hl1 hl2 hl3 hl4 mk hu8 q1 q2 q3 q4 q5 q6 q7 q8 q9 q10 q11 q12 q13 b1 b2 b3 b4 b5 hd hN0 hN1 HSS HWE HV0 HF0 hfl hs
    have hd0 : SS w w.heap.size w1.heap.size (tsz s : Int) (s : Int) (dN : Int) N o w2.drew := HSS2.out.fresh (Kept.refl w2 _).drew
    refine reg_open (S := SS w w.heap.size w1.heap.size (tsz s : Int) (s : Int) (dN : Int) N o) 48 #[false, false, false, false, false, false, false, false, false, false, false, false, false, false, false, false, false, false, false, false, false, false, false, false, false, false, false, false, false, false, false, false, false, false, false, false, false, false, false, false, false, false, false, false, false, false, false, false] (by kernel_rfl) (by kernel_rfl) (by kernel_rfl) (by intro c a d v w h; cases d <;> exact h) (by kernel_rfl) (fun OPS QQ HO HQ hQP hSel => ?_)
    generalize w2.drew = v0 at *
    refine reg_take (i := 0) (oi := ?o0) (v := ?v0) (listed' := #[true, false, false, false, false, false, false, false, false, false, false, false, false, false, false, false, false, false, false, false, false, false, false, false, false, false, false, false, false, false, false, false, false, false, false, false, false, false, false, false, false, false, false, false, false, false, false, false]) HO ?hi0 hSel ?hf0 ?hr0 hQP (by kernel_rfl) ?hw0 ?h0 hd0 ?_
    case hi0 => (simp only [List.getElem?_toArray, List.getElem?_cons_zero]; rfl)
    case hf0 => kernel_rfl
    case hr0 => kernel_rfl
    case hw0 => rfl
    case h0 => (intro W hSw; go_simp; first | done | with_reducible rfl)
    (try simp only [Act.put]); (try simp only [List.setIfInBounds_toArray]); (try simp only [List.set_cons_zero]); (try simp only [List.set_cons_succ])
    refine reg_take (i := 3) (oi := ?o3) (v := ?v3) (listed' := #[true, false, false, true, false, false, false, false, false, false, false, false, false, false, false, false, false, false, false, false, false, false, false, false, false, false, false, false, false, false, false, false, false, false, false, false, false, false, false, false, false, false, false, false, false, false, false, false]) HO ?hi3 hSel ?hf3 ?hr3 hQP (by kernel_rfl) ?hw3 ?h3 hd0 ?_
    case hi3 => (simp only [List.getElem?_toArray, List.getElem?_cons_succ, List.getElem?_cons_zero]; rfl)
    case hf3 => kernel_rfl
    case hr3 => kernel_rfl
    case hw3 => rfl
    case h3 => (intro W hSw; obtain ⟨c0, c1, c2, c3, c4, c5⟩ := hSw.k0; go_simp; first | done | with_reducible rfl)
    (try simp only [Act.put]); (try simp only [List.setIfInBounds_toArray]); (try simp only [List.set_cons_zero]); (try simp only [List.set_cons_succ])
    refine reg_take (i := 4) (oi := ?o4) (v := ?v4) (listed' := #[true, false, false, true, true, false, false, false, false, false, false, false, false, false, false, false, false, false, false, false, false, false, false, false, false, false, false, false, false, false, false, false, false, false, false, false, false, false, false, false, false, false, false, false, false, false, false, false]) HO ?hi4 hSel ?hf4 ?hr4 hQP (by kernel_rfl) ?hw4 ?h4 hd0 ?_
    case hi4 => (simp only [List.getElem?_toArray, List.getElem?_cons_succ, List.getElem?_cons_zero]; rfl)
    case hf4 => kernel_rfl
    case hr4 => kernel_rfl
    case hw4 => rfl
    case h4 => (intro W hSw; obtain ⟨c0, c1, c2, c3, c4, c5, c6, c7, c8⟩ := hSw.v; go_simp; first | done | with_reducible rfl)
    (try simp only [Act.put]); (try simp only [List.setIfInBounds_toArray]); (try simp only [List.set_cons_zero]); (try simp only [List.set_cons_succ])
    refine reg_one (i := 1) (o := ?o1) (listed' := #[true, true, false, true, true, false, false, false, false, false, false, false, false, false, false, false, false, false, false, false, false, false, false, false, false, false, false, false, false, false, false, false, false, false, false, false, false, false, false, false, false, false, false, false, false, false, false, false]) HO ?hi1 ?hr1 (by kernel_rfl) ?hw1 (fun K hK => ?_)
    case hi1 => (simp only [List.getElem?_toArray, List.getElem?_cons_succ, List.getElem?_cons_zero]; rfl)
    case hr1 => kernel_rfl
    case hw1 => rfl
    go_simp
    go_at_call 7
    refine (HA1.out _ hd0.pw).mono ?_
    rintro e x1 ⟨y1, rfl, hb1, hF1⟩
    refine hK.out _ _ ((fun _ _ h hk => SS.fresh h hk) _ _ hd0 hF1) (fun hH => ?_)
    clear hK K
    refine reg_strong (S' := And2 (SS w w.heap.size w1.heap.size (tsz s : Int) (s : Int) (dN : Int) N o) y1 l1) (fun _ h => h.s) _ _ _ _ ?_
    have hX1 : And2 (SS w w.heap.size w1.heap.size (tsz s : Int) (s : Int) (dN : Int) N o) y1 l1 x1 := ⟨hH, hb1⟩
    clear hH hb1 hF1 hd0
    refine reg_take (i := 2) (oi := ?o2) (v := ?v2) (listed' := #[true, true, true, true, true, false, false, false, false, false, false, false, false, false, false, false, false, false, false, false, false, false, false, false, false, false, false, false, false, false, false, false, false, false, false, false, false, false, false, false, false, false, false, false, false, false, false, false]) HO ?hi2 hSel ?hf2 ?hr2 hQP (by kernel_rfl) ?hw2 ?h2 hX1 ?_
    case hi2 => (simp only [List.getElem?_toArray, List.getElem?_cons_succ, List.getElem?_cons_zero]; rfl)
    case hf2 => kernel_rfl
    case hr2 => kernel_rfl
    case hw2 => rfl
    case h2 => (intro W hSw; have q := strings_same hSw.b HL1.out; go_simp; first | done | with_reducible rfl)
    (try simp only [Act.put]); (try simp only [List.setIfInBounds_toArray]); (try simp only [List.set_cons_zero]); (try simp only [List.set_cons_succ])
    refine reg_one (i := 5) (o := ?o5) (listed' := #[true, true, true, true, true, true, false, false, false, false, false, false, false, false, false, false, false, false, false, false, false, false, false, false, false, false, false, false, false, false, false, false, false, false, false, false, false, false, false, false, false, false, false, false, false, false, false, false]) HO ?hi5 ?hr5 (by kernel_rfl) ?hw5 (fun K hK => ?_)
    case hi5 => (simp only [List.getElem?_toArray, List.getElem?_cons_succ, List.getElem?_cons_zero]; rfl)
    case hr5 => kernel_rfl
    case hw5 => rfl
    go_simp
    go_at_call 8
    refine (HR1.out _).mono ?_
    rintro e x2 ⟨y2, rfl, hb2, hF2⟩
    refine hK.out _ _ ((And2.fresh (fun _ _ h hk => SS.fresh h hk)) _ _ hX1 hF2) (fun hH => ?_)
    clear hK K
    refine reg_strong (S' := And2 (And2 (SS w w.heap.size w1.heap.size (tsz s : Int) (s : Int) (dN : Int) N o) y1 l1) y2 l1) (fun _ h => h.s) _ _ _ _ ?_
    have hX2 : And2 (And2 (SS w w.heap.size w1.heap.size (tsz s : Int) (s : Int) (dN : Int) N o) y1 l1) y2 l1 x2 := ⟨hH, hb2⟩
    clear hH hb2 hF2 hX1
    refine reg_take (i := 6) (oi := ?o6) (v := ?v6) (listed' := #[true, true, true, true, true, true, true, false, false, false, false, false, false, false, false, false, false, false, false, false, false, false, false, false, false, false, false, false, false, false, false, false, false, false, false, false, false, false, false, false, false, false, false, false, false, false, false, false]) HO ?hi6 hSel ?hf6 ?hr6 hQP (by kernel_rfl) ?hw6 ?h6 hX2 ?_
    case hi6 => (simp only [List.getElem?_toArray, List.getElem?_cons_succ, List.getElem?_cons_zero]; rfl)
    case hf6 => kernel_rfl
    case hr6 => kernel_rfl
    case hw6 => rfl
    case h6 => (intro W hSw; have q := strings_same hSw.b HL1.out; go_simp; first | done | with_reducible rfl)
    (try simp only [Act.put]); (try simp only [List.setIfInBounds_toArray]); (try simp only [List.set_cons_zero]); (try simp only [List.set_cons_succ])
    refine reg_take (i := 7) (oi := ?o7) (v := ?v7) (listed' := #[true, true, true, true, true, true, true, true, false, false, false, false, false, false, false, false, false, false, false, false, false, false, false, false, false, false, false, false, false, false, false, false, false, false, false, false, false, false, false, false, false, false, false, false, false, false, false, false]) HO ?hi7 hSel ?hf7 ?hr7 hQP (by kernel_rfl) ?hw7 ?h7 hX2 ?_
    case hi7 => (simp only [List.getElem?_toArray, List.getElem?_cons_succ, List.getElem?_cons_zero]; rfl)
    case hf7 => kernel_rfl
    case hr7 => kernel_rfl
    case hw7 => rfl
    case h7 => (intro W hSw; go_simp; first | done | with_reducible rfl)
    (try simp only [Act.put]); (try simp only [List.setIfInBounds_toArray]); (try simp only [List.set_cons_zero]); (try simp only [List.set_cons_succ])
    refine reg_take (i := 8) (oi := ?o8) (v := ?v8) (listed' := #[true, true, true, true, true, true, true, true, true, false, false, false, false, false, false, false, false, false, false, false, false, false, false, false, false, false, false, false, false, false, false, false, false, false, false, false, false, false, false, false, false, false, false, false, false, false, false, false]) HO ?hi8 hSel ?hf8 ?hr8 hQP (by kernel_rfl) ?hw8 ?h8 hX2 ?_
    case hi8 => (simp only [List.getElem?_toArray, List.getElem?_cons_succ, List.getElem?_cons_zero]; rfl)
    case hf8 => kernel_rfl
    case hr8 => kernel_rfl
    case hw8 => rfl
    case h8 => (intro W hSw; go_simp; first | done | with_reducible rfl)
    (try simp only [Act.put]); (try simp only [List.setIfInBounds_toArray]); (try simp only [List.set_cons_zero]); (try simp only [List.set_cons_succ])
    refine reg_take (i := 9) (oi := ?o9) (v := ?v9) (listed' := #[true, true, true, true, true, true, true, true, true, true, false, false, false, false, false, false, false, false, false, false, false, false, false, false, false, false, false, false, false, false, false, false, false, false, false, false, false, false, false, false, false, false, false, false, false, false, false, false]) HO ?hi9 hSel ?hf9 ?hr9 hQP (by kernel_rfl) ?hw9 ?h9 hX2 ?_
    case hi9 => (simp only [List.getElem?_toArray, List.getElem?_cons_succ, List.getElem?_cons_zero]; rfl)
    case hf9 => kernel_rfl
    case hr9 => kernel_rfl
    case hw9 => rfl
    case h9 => (intro W hSw; go_simp; first | done | with_reducible rfl)
    (try simp only [Act.put]); (try simp only [List.setIfInBounds_toArray]); (try simp only [List.set_cons_zero]); (try simp only [List.set_cons_succ])
    refine reg_take (i := 10) (oi := ?o10) (v := ?v10) (listed' := #[true, true, true, true, true, true, true, true, true, true, true, false, false, false, false, false, false, false, false, false, false, false, false, false, false, false, false, false, false, false, false, false, false, false, false, false, false, false, false, false, false, false, false, false, false, false, false, false]) HO ?hi10 hSel ?hf10 ?hr10 hQP (by kernel_rfl) ?hw10 ?h10 hX2 ?_
    case hi10 => (simp only [List.getElem?_toArray, List.getElem?_cons_succ, List.getElem?_cons_zero]; rfl)
    case hf10 => kernel_rfl
    case hr10 => kernel_rfl
    case hw10 => rfl
    case h10 => (intro W hSw; go_simp; first | done | with_reducible rfl)
    (try simp only [Act.put]); (try simp only [List.setIfInBounds_toArray]); (try simp only [List.set_cons_zero]); (try simp only [List.set_cons_succ])
    refine reg_take (i := 13) (oi := ?o13) (v := ?v13) (listed' := #[true, true, true, true, true, true, true, true, true, true, true, false, false, true, false, false, false, false, false, false, false, false, false, false, false, false, false, false, false, false, false, false, false, false, false, false, false, false, false, false, false, false, false, false, false, false, false, false]) HO ?hi13 hSel ?hf13 ?hr13 hQP (by kernel_rfl) ?hw13 ?h13 hX2 ?_
    case hi13 => (simp only [List.getElem?_toArray, List.getElem?_cons_succ, List.getElem?_cons_zero]; rfl)
    case hf13 => kernel_rfl
    case hr13 => kernel_rfl
    case hw13 => rfl
    case h13 => (intro W hSw; obtain ⟨c0, c1, c2, c3, c4, c5⟩ := hSw.s.s.k1; go_simp; first | done | with_reducible rfl)
    (try simp only [Act.put]); (try simp only [List.setIfInBounds_toArray]); (try simp only [List.set_cons_zero]); (try simp only [List.set_cons_succ])
    refine reg_take (i := 14) (oi := ?o14) (v := ?v14) (listed' := #[true, true, true, true, true, true, true, true, true, true, true, false, false, true, true, false, false, false, false, false, false, false, false, false, false, false, false, false, false, false, false, false, false, false, false, false, false, false, false, false, false, false, false, false, false, false, false, false]) HO ?hi14 hSel ?hf14 ?hr14 hQP (by kernel_rfl) ?hw14 ?h14 hX2 ?_
    case hi14 => (simp only [List.getElem?_toArray, List.getElem?_cons_succ, List.getElem?_cons_zero]; rfl)
    case hf14 => kernel_rfl
    case hr14 => kernel_rfl
    case hw14 => rfl
    case h14 => (intro W hSw; obtain ⟨c0, c1, c2, c3, c4, c5, c6, c7, c8⟩ := hSw.s.s.v; go_simp; first | done | with_reducible rfl)
    (try simp only [Act.put]); (try simp only [List.setIfInBounds_toArray]); (try simp only [List.set_cons_zero]); (try simp only [List.set_cons_succ])
    refine reg_one (i := 11) (o := ?o11) (listed' := #[true, true, true, true, true, true, true, true, true, true, true, true, false, true, true, false, false, false, false, false, false, false, false, false, false, false, false, false, false, false, false, false, false, false, false, false, false, false, false, false, false, false, false, false, false, false, false, false]) HO ?hi11 ?hr11 (by kernel_rfl) ?hw11 (fun K hK => ?_)
    case hi11 => (simp only [List.getElem?_toArray, List.getElem?_cons_succ, List.getElem?_cons_zero]; rfl)
    case hr11 => kernel_rfl
    case hw11 => rfl
    go_simp
    go_at_call 9
    refine (HA2.out _ hX2.s.s.pw).mono ?_
    rintro e x3 ⟨y3, rfl, hb3, hF3⟩
    refine hK.out _ _ ((And2.fresh (And2.fresh (fun _ _ h hk => SS.fresh h hk))) _ _ hX2 hF3) (fun hH => ?_)
    clear hK K
    refine reg_strong (S' := And2 (And2 (And2 (SS w w.heap.size w1.heap.size (tsz s : Int) (s : Int) (dN : Int) N o) y1 l1) y2 l1) y3 l2) (fun _ h => h.s) _ _ _ _ ?_
    have hX3 : And2 (And2 (And2 (SS w w.heap.size w1.heap.size (tsz s : Int) (s : Int) (dN : Int) N o) y1 l1) y2 l1) y3 l2 x3 := ⟨hH, hb3⟩
    clear hH hb3 hF3 hX2
    refine reg_take (i := 12) (oi := ?o12) (v := ?v12) (listed' := #[true, true, true, true, true, true, true, true, true, true, true, true, true, true, true, false, false, false, false, false, false, false, false, false, false, false, false, false, false, false, false, false, false, false, false, false, false, false, false, false, false, false, false, false, false, false, false, false]) HO ?hi12 hSel ?hf12 ?hr12 hQP (by kernel_rfl) ?hw12 ?h12 hX3 ?_
    case hi12 => (simp only [List.getElem?_toArray, List.getElem?_cons_succ, List.getElem?_cons_zero]; rfl)
    case hf12 => kernel_rfl
    case hr12 => kernel_rfl
    case hw12 => rfl
    case h12 => (intro W hSw; have q := strings_same hSw.b HL2.out; go_simp; first | done | with_reducible rfl)
    (try simp only [Act.put]); (try simp only [List.setIfInBounds_toArray]); (try simp only [List.set_cons_zero]); (try simp only [List.set_cons_succ])
    refine reg_one (i := 15) (o := ?o15) (listed' := #[true, true, true, true, true, true, true, true, true, true, true, true, true, true, true, true, false, false, false, false, false, false, false, false, false, false, false, false, false, false, false, false, false, false, false, false, false, false, false, false, false, false, false, false, false, false, false, false]) HO ?hi15 ?hr15 (by kernel_rfl) ?hw15 (fun K hK => ?_)
    case hi15 => (simp only [List.getElem?_toArray, List.getElem?_cons_succ, List.getElem?_cons_zero]; rfl)
    case hr15 => kernel_rfl
    case hw15 => rfl
    go_simp
    go_at_call 8
    refine (HR2.out _).mono ?_
    rintro e x4 ⟨y4, rfl, hb4, hF4⟩
    refine hK.out _ _ ((And2.fresh (And2.fresh (And2.fresh (fun _ _ h hk => SS.fresh h hk)))) _ _ hX3 hF4) (fun hH => ?_)
    clear hK K
    refine reg_strong (S' := And2 (And2 (And2 (And2 (SS w w.heap.size w1.heap.size (tsz s : Int) (s : Int) (dN : Int) N o) y1 l1) y2 l1) y3 l2) y4 l2) (fun _ h => h.s) _ _ _ _ ?_
    have hX4 : And2 (And2 (And2 (And2 (SS w w.heap.size w1.heap.size (tsz s : Int) (s : Int) (dN : Int) N o) y1 l1) y2 l1) y3 l2) y4 l2 x4 := ⟨hH, hb4⟩
    clear hH hb4 hF4 hX3
    refine reg_take (i := 16) (oi := ?o16) (v := ?v16) (listed' := #[true, true, true, true, true, true, true, true, true, true, true, true, true, true, true, true, true, false, false, false, false, false, false, false, false, false, false, false, false, false, false, false, false, false, false, false, false, false, false, false, false, false, false, false, false, false, false, false]) HO ?hi16 hSel ?hf16 ?hr16 hQP (by kernel_rfl) ?hw16 ?h16 hX4 ?_
    case hi16 => (simp only [List.getElem?_toArray, List.getElem?_cons_succ, List.getElem?_cons_zero]; rfl)
    case hf16 => kernel_rfl
    case hr16 => kernel_rfl
    case hw16 => rfl
    case h16 => (intro W hSw; have q := strings_same hSw.b HL2.out; go_simp; first | done | with_reducible rfl)
    (try simp only [Act.put]); (try simp only [List.setIfInBounds_toArray]); (try simp only [List.set_cons_zero]); (try simp only [List.set_cons_succ])
    refine reg_take (i := 17) (oi := ?o17) (v := ?v17) (listed' := #[true, true, true, true, true, true, true, true, true, true, true, true, true, true, true, true, true, true, false, false, false, false, false, false, false, false, false, false, false, false, false, false, false, false, false, false, false, false, false, false, false, false, false, false, false, false, false, false]) HO ?hi17 hSel ?hf17 ?hr17 hQP (by kernel_rfl) ?hw17 ?h17 hX4 ?_
    case hi17 => (simp only [List.getElem?_toArray, List.getElem?_cons_succ, List.getElem?_cons_zero]; rfl)
    case hf17 => kernel_rfl
    case hr17 => kernel_rfl
    case hw17 => rfl
    case h17 => (intro W hSw; go_simp; first | done | with_reducible rfl)
    (try simp only [Act.put]); (try simp only [List.setIfInBounds_toArray]); (try simp only [List.set_cons_zero]); (try simp only [List.set_cons_succ])
    refine reg_take (i := 18) (oi := ?o18) (v := ?v18) (listed' := #[true, true, true, true, true, true, true, true, true, true, true, true, true, true, true, true, true, true, true, false, false, false, false, false, false, false, false, false, false, false, false, false, false, false, false, false, false, false, false, false, false, false, false, false, false, false, false, false]) HO ?hi18 hSel ?hf18 ?hr18 hQP (by kernel_rfl) ?hw18 ?h18 hX4 ?_
    case hi18 => (simp only [List.getElem?_toArray, List.getElem?_cons_succ, List.getElem?_cons_zero]; rfl)
    case hf18 => kernel_rfl
    case hr18 => kernel_rfl
    case hw18 => rfl
    case h18 => (intro W hSw; go_simp; first | done | with_reducible rfl)
    (try simp only [Act.put]); (try simp only [List.setIfInBounds_toArray]); (try simp only [List.set_cons_zero]); (try simp only [List.set_cons_succ])
    refine reg_take (i := 19) (oi := ?o19) (v := ?v19) (listed' := #[true, true, true, true, true, true, true, true, true, true, true, true, true, true, true, true, true, true, true, true, false, false, false, false, false, false, false, false, false, false, false, false, false, false, false, false, false, false, false, false, false, false, false, false, false, false, false, false]) HO ?hi19 hSel ?hf19 ?hr19 hQP (by kernel_rfl) ?hw19 ?h19 hX4 ?_
    case hi19 => (simp only [List.getElem?_toArray, List.getElem?_cons_succ, List.getElem?_cons_zero]; rfl)
    case hf19 => kernel_rfl
    case hr19 => kernel_rfl
    case hw19 => rfl
    case h19 => (intro W hSw; go_simp; first | done | with_reducible rfl)
    (try simp only [Act.put]); (try simp only [List.setIfInBounds_toArray]); (try simp only [List.set_cons_zero]); (try simp only [List.set_cons_succ])
    refine reg_take (i := 20) (oi := ?o20) (v := ?v20) (listed' := #[true, true, true, true, true, true, true, true, true, true, true, true, true, true, true, true, true, true, true, true, true, false, false, false, false, false, false, false, false, false, false, false, false, false, false, false, false, false, false, false, false, false, false, false, false, false, false, false]) HO ?hi20 hSel ?hf20 ?hr20 hQP (by kernel_rfl) ?hw20 ?h20 hX4 ?_
    case hi20 => (simp only [List.getElem?_toArray, List.getElem?_cons_succ, List.getElem?_cons_zero]; rfl)
    case hf20 => kernel_rfl
    case hr20 => kernel_rfl
    case hw20 => rfl
    case h20 => (intro W hSw; go_simp; first | done | with_reducible rfl)
    (try simp only [Act.put]); (try simp only [List.setIfInBounds_toArray]); (try simp only [List.set_cons_zero]); (try simp only [List.set_cons_succ])
    refine reg_take (i := 21) (oi := ?o21) (v := ?v21) (listed' := #[true, true, true, true, true, true, true, true, true, true, true, true, true, true, true, true, true, true, true, true, true, true, false, false, false, false, false, false, false, false, false, false, false, false, false, false, false, false, false, false, false, false, false, false, false, false, false, false]) HO ?hi21 hSel ?hf21 ?hr21 hQP (by kernel_rfl) ?hw21 ?h21 hX4 ?_
    case hi21 => (simp only [List.getElem?_toArray, List.getElem?_cons_succ, List.getElem?_cons_zero]; rfl)
    case hf21 => kernel_rfl
    case hr21 => kernel_rfl
    case hw21 => rfl
    case h21 => (intro W hSw; go_simp; first | done | with_reducible rfl)
    (try simp only [Act.put]); (try simp only [List.setIfInBounds_toArray]); (try simp only [List.set_cons_zero]); (try simp only [List.set_cons_succ])
    refine reg_take (i := 22) (oi := ?o22) (v := ?v22) (listed' := #[true, true, true, true, true, true, true, true, true, true, true, true, true, true, true, true, true, true, true, true, true, true, true, false, false, false, false, false, false, false, false, false, false, false, false, false, false, false, false, false, false, false, false, false, false, false, false, false]) HO ?hi22 hSel ?hf22 ?hr22 hQP (by kernel_rfl) ?hw22 ?h22 hX4 ?_
    case hi22 => (simp only [List.getElem?_toArray, List.getElem?_cons_succ, List.getElem?_cons_zero]; rfl)
    case hf22 => kernel_rfl
    case hr22 => kernel_rfl
    case hw22 => rfl
    case h22 => (intro W hSw; go_simp; first | done | with_reducible rfl)
    (try simp only [Act.put]); (try simp only [List.setIfInBounds_toArray]); (try simp only [List.set_cons_zero]); (try simp only [List.set_cons_succ])
    refine reg_take (i := 25) (oi := ?o25) (v := ?v25) (listed' := #[true, true, true, true, true, true, true, true, true, true, true, true, true, true, true, true, true, true, true, true, true, true, true, false, false, true, false, false, false, false, false, false, false, false, false, false, false, false, false, false, false, false, false, false, false, false, false, false]) HO ?hi25 hSel ?hf25 ?hr25 hQP (by kernel_rfl) ?hw25 ?h25 hX4 ?_
    case hi25 => (simp only [List.getElem?_toArray, List.getElem?_cons_succ, List.getElem?_cons_zero]; rfl)
    case hf25 => kernel_rfl
    case hr25 => kernel_rfl
    case hw25 => rfl
    case h25 => (intro W hSw; obtain ⟨c0, c1, c2, c3, c4, c5⟩ := hSw.s.s.s.s.k2; go_simp; first | done | with_reducible rfl)
    (try simp only [Act.put]); (try simp only [List.setIfInBounds_toArray]); (try simp only [List.set_cons_zero]); (try simp only [List.set_cons_succ])
    refine reg_take (i := 26) (oi := ?o26) (v := ?v26) (listed' := #[true, true, true, true, true, true, true, true, true, true, true, true, true, true, true, true, true, true, true, true, true, true, true, false, false, true, true, false, false, false, false, false, false, false, false, false, false, false, false, false, false, false, false, false, false, false, false, false]) HO ?hi26 hSel ?hf26 ?hr26 hQP (by kernel_rfl) ?hw26 ?h26 hX4 ?_
    case hi26 => (simp only [List.getElem?_toArray, List.getElem?_cons_succ, List.getElem?_cons_zero]; rfl)
    case hf26 => kernel_rfl
    case hr26 => kernel_rfl
    case hw26 => rfl
    case h26 => (intro W hSw; obtain ⟨c0, c1, c2, c3, c4, c5, c6, c7, c8⟩ := hSw.s.s.s.s.v; go_simp; first | done | with_reducible rfl)
    (try simp only [Act.put]); (try simp only [List.setIfInBounds_toArray]); (try simp only [List.set_cons_zero]); (try simp only [List.set_cons_succ])
    refine reg_one (i := 23) (o := ?o23) (listed' := #[true, true, true, true, true, true, true, true, true, true, true, true, true, true, true, true, true, true, true, true, true, true, true, true, false, true, true, false, false, false, false, false, false, false, false, false, false, false, false, false, false, false, false, false, false, false, false, false]) HO ?hi23 ?hr23 (by kernel_rfl) ?hw23 (fun K hK => ?_)
    case hi23 => (simp only [List.getElem?_toArray, List.getElem?_cons_succ, List.getElem?_cons_zero]; rfl)
    case hr23 => kernel_rfl
    case hw23 => rfl
    go_simp
    go_at_call 10
    refine (HA3.out _ hX4.s.s.s.s.pw).mono ?_
    rintro e x5 ⟨y5, rfl, hb5, hF5⟩
    refine hK.out _ _ ((And2.fresh (And2.fresh (And2.fresh (And2.fresh (fun _ _ h hk => SS.fresh h hk))))) _ _ hX4 hF5) (fun hH => ?_)
    clear hK K
    refine reg_strong (S' := And2 (And2 (And2 (And2 (And2 (SS w w.heap.size w1.heap.size (tsz s : Int) (s : Int) (dN : Int) N o) y1 l1) y2 l1) y3 l2) y4 l2) y5 l3) (fun _ h => h.s) _ _ _ _ ?_
    have hX5 : And2 (And2 (And2 (And2 (And2 (SS w w.heap.size w1.heap.size (tsz s : Int) (s : Int) (dN : Int) N o) y1 l1) y2 l1) y3 l2) y4 l2) y5 l3 x5 := ⟨hH, hb5⟩
    clear hH hb5 hF5 hX4
    refine reg_take (i := 24) (oi := ?o24) (v := ?v24) (listed' := #[true, true, true, true, true, true, true, true, true, true, true, true, true, true, true, true, true, true, true, true, true, true, true, true, true, true, true, false, false, false, false, false, false, false, false, false, false, false, false, false, false, false, false, false, false, false, false, false]) HO ?hi24 hSel ?hf24 ?hr24 hQP (by kernel_rfl) ?hw24 ?h24 hX5 ?_
    case hi24 => (simp only [List.getElem?_toArray, List.getElem?_cons_succ, List.getElem?_cons_zero]; rfl)
    case hf24 => kernel_rfl
    case hr24 => kernel_rfl
    case hw24 => rfl
    case h24 => (intro W hSw; have q := strings_same hSw.b HL3.out; go_simp; first | done | with_reducible rfl)
    (try simp only [Act.put]); (try simp only [List.setIfInBounds_toArray]); (try simp only [List.set_cons_zero]); (try simp only [List.set_cons_succ])
    refine reg_one (i := 27) (o := ?o27) (listed' := #[true, true, true, true, true, true, true, true, true, true, true, true, true, true, true, true, true, true, true, true, true, true, true, true, true, true, true, true, false, false, false, false, false, false, false, false, false, false, false, false, false, false, false, false, false, false, false, false]) HO ?hi27 ?hr27 (by kernel_rfl) ?hw27 (fun K hK => ?_)
    case hi27 => (simp only [List.getElem?_toArray, List.getElem?_cons_succ, List.getElem?_cons_zero]; rfl)
    case hr27 => kernel_rfl
    case hw27 => rfl
    go_simp
    go_at_call 8
    refine (HR3.out _).mono ?_
    rintro e x6 ⟨y6, rfl, hb6, hF6⟩
    refine hK.out _ _ ((And2.fresh (And2.fresh (And2.fresh (And2.fresh (And2.fresh (fun _ _ h hk => SS.fresh h hk)))))) _ _ hX5 hF6) (fun hH => ?_)
    clear hK K
    refine reg_strong (S' := And2 (And2 (And2 (And2 (And2 (And2 (SS w w.heap.size w1.heap.size (tsz s : Int) (s : Int) (dN : Int) N o) y1 l1) y2 l1) y3 l2) y4 l2) y5 l3) y6 l3) (fun _ h => h.s) _ _ _ _ ?_
    have hX6 : And2 (And2 (And2 (And2 (And2 (And2 (SS w w.heap.size w1.heap.size (tsz s : Int) (s : Int) (dN : Int) N o) y1 l1) y2 l1) y3 l2) y4 l2) y5 l3) y6 l3 x6 := ⟨hH, hb6⟩
    clear hH hb6 hF6 hX5
    refine reg_take (i := 28) (oi := ?o28) (v := ?v28) (listed' := #[true, true, true, true, true, true, true, true, true, true, true, true, true, true, true, true, true, true, true, true, true, true, true, true, true, true, true, true, true, false, false, false, false, false, false, false, false, false, false, false, false, false, false, false, false, false, false, false]) HO ?hi28 hSel ?hf28 ?hr28 hQP (by kernel_rfl) ?hw28 ?h28 hX6 ?_
    case hi28 => (simp only [List.getElem?_toArray, List.getElem?_cons_succ, List.getElem?_cons_zero]; rfl)
    case hf28 => kernel_rfl
    case hr28 => kernel_rfl
    case hw28 => rfl
    case h28 => (intro W hSw; have q := strings_same hSw.b HL3.out; go_simp; first | done | with_reducible rfl)
    (try simp only [Act.put]); (try simp only [List.setIfInBounds_toArray]); (try simp only [List.set_cons_zero]); (try simp only [List.set_cons_succ])
    refine reg_take (i := 29) (oi := ?o29) (v := ?v29) (listed' := #[true, true, true, true, true, true, true, true, true, true, true, true, true, true, true, true, true, true, true, true, true, true, true, true, true, true, true, true, true, true, false, false, false, false, false, false, false, false, false, false, false, false, false, false, false, false, false, false]) HO ?hi29 hSel ?hf29 ?hr29 hQP (by kernel_rfl) ?hw29 ?h29 hX6 ?_
    case hi29 => (simp only [List.getElem?_toArray, List.getElem?_cons_succ, List.getElem?_cons_zero]; rfl)
    case hf29 => kernel_rfl
    case hr29 => kernel_rfl
    case hw29 => rfl
    case h29 => (intro W hSw; go_simp; first | done | with_reducible rfl)
    (try simp only [Act.put]); (try simp only [List.setIfInBounds_toArray]); (try simp only [List.set_cons_zero]); (try simp only [List.set_cons_succ])
    refine reg_take (i := 30) (oi := ?o30) (v := ?v30) (listed' := #[true, true, true, true, true, true, true, true, true, true, true, true, true, true, true, true, true, true, true, true, true, true, true, true, true, true, true, true, true, true, true, false, false, false, false, false, false, false, false, false, false, false, false, false, false, false, false, false]) HO ?hi30 hSel ?hf30 ?hr30 hQP (by kernel_rfl) ?hw30 ?h30 hX6 ?_
    case hi30 => (simp only [List.getElem?_toArray, List.getElem?_cons_succ, List.getElem?_cons_zero]; rfl)
    case hf30 => kernel_rfl
    case hr30 => kernel_rfl
    case hw30 => rfl
    case h30 => (intro W hSw; go_simp; first | done | with_reducible rfl)
    (try simp only [Act.put]); (try simp only [List.setIfInBounds_toArray]); (try simp only [List.set_cons_zero]); (try simp only [List.set_cons_succ])
    refine reg_take (i := 31) (oi := ?o31) (v := ?v31) (listed' := #[true, true, true, true, true, true, true, true, true, true, true, true, true, true, true, true, true, true, true, true, true, true, true, true, true, true, true, true, true, true, true, true, false, false, false, false, false, false, false, false, false, false, false, false, false, false, false, false]) HO ?hi31 hSel ?hf31 ?hr31 hQP (by kernel_rfl) ?hw31 ?h31 hX6 ?_
    case hi31 => (simp only [List.getElem?_toArray, List.getElem?_cons_succ, List.getElem?_cons_zero]; rfl)
    case hf31 => kernel_rfl
    case hr31 => kernel_rfl
    case hw31 => rfl
    case h31 => (intro W hSw; go_simp; first | done | with_reducible rfl)
    (try simp only [Act.put]); (try simp only [List.setIfInBounds_toArray]); (try simp only [List.set_cons_zero]); (try simp only [List.set_cons_succ])
    refine reg_take (i := 32) (oi := ?o32) (v := ?v32) (listed' := #[true, true, true, true, true, true, true, true, true, true, true, true, true, true, true, true, true, true, true, true, true, true, true, true, true, true, true, true, true, true, true, true, true, false, false, false, false, false, false, false, false, false, false, false, false, false, false, false]) HO ?hi32 hSel ?hf32 ?hr32 hQP (by kernel_rfl) ?hw32 ?h32 hX6 ?_
    case hi32 => (simp only [List.getElem?_toArray, List.getElem?_cons_succ, List.getElem?_cons_zero]; rfl)
    case hf32 => kernel_rfl
    case hr32 => kernel_rfl
    case hw32 => rfl
    case h32 => (intro W hSw; go_simp; first | done | with_reducible rfl)
    (try simp only [Act.put]); (try simp only [List.setIfInBounds_toArray]); (try simp only [List.set_cons_zero]); (try simp only [List.set_cons_succ])
    refine reg_take (i := 33) (oi := ?o33) (v := ?v33) (listed' := #[true, true, true, true, true, true, true, true, true, true, true, true, true, true, true, true, true, true, true, true, true, true, true, true, true, true, true, true, true, true, true, true, true, true, false, false, false, false, false, false, false, false, false, false, false, false, false, false]) HO ?hi33 hSel ?hf33 ?hr33 hQP (by kernel_rfl) ?hw33 ?h33 hX6 ?_
    case hi33 => (simp only [List.getElem?_toArray, List.getElem?_cons_succ, List.getElem?_cons_zero]; rfl)
    case hf33 => kernel_rfl
    case hr33 => kernel_rfl
    case hw33 => rfl
    case h33 => (intro W hSw; go_simp; first | done | with_reducible rfl)
    (try simp only [Act.put]); (try simp only [List.setIfInBounds_toArray]); (try simp only [List.set_cons_zero]); (try simp only [List.set_cons_succ])
    refine reg_take (i := 34) (oi := ?o34) (v := ?v34) (listed' := #[true, true, true, true, true, true, true, true, true, true, true, true, true, true, true, true, true, true, true, true, true, true, true, true, true, true, true, true, true, true, true, true, true, true, true, false, false, false, false, false, false, false, false, false, false, false, false, false]) HO ?hi34 hSel ?hf34 ?hr34 hQP (by kernel_rfl) ?hw34 ?h34 hX6 ?_
    case hi34 => (simp only [List.getElem?_toArray, List.getElem?_cons_succ, List.getElem?_cons_zero]; rfl)
    case hf34 => kernel_rfl
    case hr34 => kernel_rfl
    case hw34 => rfl
    case h34 => (intro W hSw; go_simp; first | done | with_reducible rfl)
    (try simp only [Act.put]); (try simp only [List.setIfInBounds_toArray]); (try simp only [List.set_cons_zero]); (try simp only [List.set_cons_succ])
    refine reg_take (i := 35) (oi := ?o35) (v := ?v35) (listed' := #[true, true, true, true, true, true, true, true, true, true, true, true, true, true, true, true, true, true, true, true, true, true, true, true, true, true, true, true, true, true, true, true, true, true, true, true, false, false, false, false, false, false, false, false, false, false, false, false]) HO ?hi35 hSel ?hf35 ?hr35 hQP (by kernel_rfl) ?hw35 ?h35 hX6 ?_
    case hi35 => (simp only [List.getElem?_toArray, List.getElem?_cons_succ, List.getElem?_cons_zero]; rfl)
    case hf35 => kernel_rfl
    case hr35 => kernel_rfl
    case hw35 => rfl
    case h35 => (intro W hSw; go_simp; first | done | with_reducible rfl)
    (try simp only [Act.put]); (try simp only [List.setIfInBounds_toArray]); (try simp only [List.set_cons_zero]); (try simp only [List.set_cons_succ])
    refine reg_take (i := 38) (oi := ?o38) (v := ?v38) (listed' := #[true, true, true, true, true, true, true, true, true, true, true, true, true, true, true, true, true, true, true, true, true, true, true, true, true, true, true, true, true, true, true, true, true, true, true, true, false, false, true, false, false, false, false, false, false, false, false, false]) HO ?hi38 hSel ?hf38 ?hr38 hQP (by kernel_rfl) ?hw38 ?h38 hX6 ?_
    case hi38 => (simp only [List.getElem?_toArray, List.getElem?_cons_succ, List.getElem?_cons_zero]; rfl)
    case hf38 => kernel_rfl
    case hr38 => kernel_rfl
    case hw38 => rfl
    case h38 => (intro W hSw; obtain ⟨c0, c1, c2, c3, c4, c5⟩ := hSw.s.s.s.s.s.s.k3; go_simp; first | done | with_reducible rfl)
    (try simp only [Act.put]); (try simp only [List.setIfInBounds_toArray]); (try simp only [List.set_cons_zero]); (try simp only [List.set_cons_succ])
    refine reg_take (i := 39) (oi := ?o39) (v := ?v39) (listed' := #[true, true, true, true, true, true, true, true, true, true, true, true, true, true, true, true, true, true, true, true, true, true, true, true, true, true, true, true, true, true, true, true, true, true, true, true, false, false, true, true, false, false, false, false, false, false, false, false]) HO ?hi39 hSel ?hf39 ?hr39 hQP (by kernel_rfl) ?hw39 ?h39 hX6 ?_
    case hi39 => (simp only [List.getElem?_toArray, List.getElem?_cons_succ, List.getElem?_cons_zero]; rfl)
    case hf39 => kernel_rfl
    case hr39 => kernel_rfl
    case hw39 => rfl
    case h39 => (intro W hSw; obtain ⟨c0, c1, c2, c3, c4, c5, c6, c7, c8⟩ := hSw.s.s.s.s.s.s.v; go_simp; first | done | with_reducible rfl)
    (try simp only [Act.put]); (try simp only [List.setIfInBounds_toArray]); (try simp only [List.set_cons_zero]); (try simp only [List.set_cons_succ])
    refine reg_one (i := 36) (o := ?o36) (listed' := #[true, true, true, true, true, true, true, true, true, true, true, true, true, true, true, true, true, true, true, true, true, true, true, true, true, true, true, true, true, true, true, true, true, true, true, true, true, false, true, true, false, false, false, false, false, false, false, false]) HO ?hi36 ?hr36 (by kernel_rfl) ?hw36 (fun K hK => ?_)
    case hi36 => (simp only [List.getElem?_toArray, List.getElem?_cons_succ, List.getElem?_cons_zero]; rfl)
    case hr36 => kernel_rfl
    case hw36 => rfl
    go_simp
    go_at_call 11
    refine (HA4.out _ hX6.s.s.s.s.s.s.pw).mono ?_
    rintro e x7 ⟨y7, rfl, hb7, hF7⟩
    refine hK.out _ _ ((And2.fresh (And2.fresh (And2.fresh (And2.fresh (And2.fresh (And2.fresh (fun _ _ h hk => SS.fresh h hk))))))) _ _ hX6 hF7) (fun hH => ?_)
    clear hK K
    refine reg_strong (S' := And2 (And2 (And2 (And2 (And2 (And2 (And2 (SS w w.heap.size w1.heap.size (tsz s : Int) (s : Int) (dN : Int) N o) y1 l1) y2 l1) y3 l2) y4 l2) y5 l3) y6 l3) y7 l4) (fun _ h => h.s) _ _ _ _ ?_
    have hX7 : And2 (And2 (And2 (And2 (And2 (And2 (And2 (SS w w.heap.size w1.heap.size (tsz s : Int) (s : Int) (dN : Int) N o) y1 l1) y2 l1) y3 l2) y4 l2) y5 l3) y6 l3) y7 l4 x7 := ⟨hH, hb7⟩
    clear hH hb7 hF7 hX6
    refine reg_take (i := 37) (oi := ?o37) (v := ?v37) (listed' := #[true, true, true, true, true, true, true, true, true, true, true, true, true, true, true, true, true, true, true, true, true, true, true, true, true, true, true, true, true, true, true, true, true, true, true, true, true, true, true, true, false, false, false, false, false, false, false, false]) HO ?hi37 hSel ?hf37 ?hr37 hQP (by kernel_rfl) ?hw37 ?h37 hX7 ?_
    case hi37 => (simp only [List.getElem?_toArray, List.getElem?_cons_succ, List.getElem?_cons_zero]; rfl)
    case hf37 => kernel_rfl
    case hr37 => kernel_rfl
    case hw37 => rfl
    case h37 => (intro W hSw; have q := strings_same hSw.b HL4.out; go_simp; first | done | with_reducible rfl)
    (try simp only [Act.put]); (try simp only [List.setIfInBounds_toArray]); (try simp only [List.set_cons_zero]); (try simp only [List.set_cons_succ])
    refine reg_one (i := 40) (o := ?o40) (listed' := #[true, true, true, true, true, true, true, true, true, true, true, true, true, true, true, true, true, true, true, true, true, true, true, true, true, true, true, true, true, true, true, true, true, true, true, true, true, true, true, true, true, false, false, false, false, false, false, false]) HO ?hi40 ?hr40 (by kernel_rfl) ?hw40 (fun K hK => ?_)
    case hi40 => (simp only [List.getElem?_toArray, List.getElem?_cons_succ, List.getElem?_cons_zero]; rfl)
    case hr40 => kernel_rfl
    case hw40 => rfl
    go_simp
    go_at_call 8
    refine (HR4.out _).mono ?_
    rintro e x8 ⟨y8, rfl, hb8, hF8⟩
    refine hK.out _ _ ((And2.fresh (And2.fresh (And2.fresh (And2.fresh (And2.fresh (And2.fresh (And2.fresh (fun _ _ h hk => SS.fresh h hk)))))))) _ _ hX7 hF8) (fun hH => ?_)
    clear hK K
    refine reg_strong (S' := And2 (And2 (And2 (And2 (And2 (And2 (And2 (And2 (SS w w.heap.size w1.heap.size (tsz s : Int) (s : Int) (dN : Int) N o) y1 l1) y2 l1) y3 l2) y4 l2) y5 l3) y6 l3) y7 l4) y8 l4) (fun _ h => h.s) _ _ _ _ ?_
    have hX8 : And2 (And2 (And2 (And2 (And2 (And2 (And2 (And2 (SS w w.heap.size w1.heap.size (tsz s : Int) (s : Int) (dN : Int) N o) y1 l1) y2 l1) y3 l2) y4 l2) y5 l3) y6 l3) y7 l4) y8 l4 x8 := ⟨hH, hb8⟩
    clear hH hb8 hF8 hX7
    refine reg_take (i := 41) (oi := ?o41) (v := ?v41) (listed' := #[true, true, true, true, true, true, true, true, true, true, true, true, true, true, true, true, true, true, true, true, true, true, true, true, true, true, true, true, true, true, true, true, true, true, true, true, true, true, true, true, true, true, false, false, false, false, false, false]) HO ?hi41 hSel ?hf41 ?hr41 hQP (by kernel_rfl) ?hw41 ?h41 hX8 ?_
    case hi41 => (simp only [List.getElem?_toArray, List.getElem?_cons_succ, List.getElem?_cons_zero]; rfl)
    case hf41 => kernel_rfl
    case hr41 => kernel_rfl
    case hw41 => rfl
    case h41 => (intro W hSw; have q := strings_same hSw.b HL4.out; go_simp; first | done | with_reducible rfl)
    (try simp only [Act.put]); (try simp only [List.setIfInBounds_toArray]); (try simp only [List.set_cons_zero]); (try simp only [List.set_cons_succ])
    refine reg_take (i := 42) (oi := ?o42) (v := ?v42) (listed' := #[true, true, true, true, true, true, true, true, true, true, true, true, true, true, true, true, true, true, true, true, true, true, true, true, true, true, true, true, true, true, true, true, true, true, true, true, true, true, true, true, true, true, true, false, false, false, false, false]) HO ?hi42 hSel ?hf42 ?hr42 hQP (by kernel_rfl) ?hw42 ?h42 hX8 ?_
    case hi42 => (simp only [List.getElem?_toArray, List.getElem?_cons_succ, List.getElem?_cons_zero]; rfl)
    case hf42 => kernel_rfl
    case hr42 => kernel_rfl
    case hw42 => rfl
    case h42 => (intro W hSw; go_simp; first | done | with_reducible rfl)
    (try simp only [Act.put]); (try simp only [List.setIfInBounds_toArray]); (try simp only [List.set_cons_zero]); (try simp only [List.set_cons_succ])
    refine reg_take (i := 43) (oi := ?o43) (v := ?v43) (listed' := #[true, true, true, true, true, true, true, true, true, true, true, true, true, true, true, true, true, true, true, true, true, true, true, true, true, true, true, true, true, true, true, true, true, true, true, true, true, true, true, true, true, true, true, true, false, false, false, false]) HO ?hi43 hSel ?hf43 ?hr43 hQP (by kernel_rfl) ?hw43 ?h43 hX8 ?_
    case hi43 => (simp only [List.getElem?_toArray, List.getElem?_cons_succ, List.getElem?_cons_zero]; rfl)
    case hf43 => kernel_rfl
    case hr43 => kernel_rfl
    case hw43 => rfl
    case h43 => (intro W hSw; go_simp; first | done | with_reducible rfl)
    (try simp only [Act.put]); (try simp only [List.setIfInBounds_toArray]); (try simp only [List.set_cons_zero]); (try simp only [List.set_cons_succ])
    refine reg_take (i := 44) (oi := ?o44) (v := ?v44) (listed' := #[true, true, true, true, true, true, true, true, true, true, true, true, true, true, true, true, true, true, true, true, true, true, true, true, true, true, true, true, true, true, true, true, true, true, true, true, true, true, true, true, true, true, true, true, true, false, false, false]) HO ?hi44 hSel ?hf44 ?hr44 hQP (by kernel_rfl) ?hw44 ?h44 hX8 ?_
    case hi44 => (simp only [List.getElem?_toArray, List.getElem?_cons_succ, List.getElem?_cons_zero]; rfl)
    case hf44 => kernel_rfl
    case hr44 => kernel_rfl
    case hw44 => rfl
    case h44 => (intro W hSw; go_simp; first | done | with_reducible rfl)
    (try simp only [Act.put]); (try simp only [List.setIfInBounds_toArray]); (try simp only [List.set_cons_zero]); (try simp only [List.set_cons_succ])
    refine reg_one (i := 45) (o := ?o45) (listed' := #[true, true, true, true, true, true, true, true, true, true, true, true, true, true, true, true, true, true, true, true, true, true, true, true, true, true, true, true, true, true, true, true, true, true, true, true, true, true, true, true, true, true, true, true, true, true, false, false]) HO ?hi45 ?hr45 (by kernel_rfl) ?hw45 (fun K hK => ?_)
    case hi45 => (simp only [List.getElem?_toArray, List.getElem?_cons_succ, List.getElem?_cons_zero]; rfl)
    case hr45 => kernel_rfl
    case hw45 => rfl
    go_simp
    go_at_call 6
    refine (works_any _).mono ?_
    rintro e x9 ⟨rfl, hF9⟩
    refine hK.out _ _ ((And2.fresh (And2.fresh (And2.fresh (And2.fresh (And2.fresh (And2.fresh (And2.fresh (And2.fresh (fun _ _ h hk => SS.fresh h hk))))))))) _ _ hX8 hF9) (fun hX9 => ?_)
    clear hK K
    clear hF9 hX8
    refine reg_take (i := 46) (oi := ?o46) (v := ?v46) (listed' := #[true, true, true, true, true, true, true, true, true, true, true, true, true, true, true, true, true, true, true, true, true, true, true, true, true, true, true, true, true, true, true, true, true, true, true, true, true, true, true, true, true, true, true, true, true, true, true, false]) HO ?hi46 hSel ?hf46 ?hr46 hQP (by kernel_rfl) ?hw46 ?h46 hX9 ?_
    case hi46 => (simp only [List.getElem?_toArray, List.getElem?_cons_succ, List.getElem?_cons_zero]; rfl)
    case hf46 => kernel_rfl
    case hr46 => kernel_rfl
    case hw46 => rfl
    case h46 => (intro W hSw; go_simp; first | done | with_reducible rfl)
    (try simp only [Act.put]); (try simp only [List.setIfInBounds_toArray]); (try simp only [List.set_cons_zero]); (try simp only [List.set_cons_succ])
    refine reg_take (i := 47) (oi := ?o47) (v := ?v47) (listed' := #[true, true, true, true, true, true, true, true, true, true, true, true, true, true, true, true, true, true, true, true, true, true, true, true, true, true, true, true, true, true, true, true, true, true, true, true, true, true, true, true, true, true, true, true, true, true, true, true]) HO ?hi47 hSel ?hf47 ?hr47 hQP (by kernel_rfl) ?hw47 ?h47 hX9 ?_
    case hi47 => (simp only [List.getElem?_toArray, List.getElem?_cons_succ, List.getElem?_cons_zero]; rfl)
    case hf47 => kernel_rfl
    case hr47 => kernel_rfl
    case hw47 => rfl
    case h47 => (intro W hSw; go_simp; first | done | with_reducible rfl)
    (try simp only [Act.put]); (try simp only [List.setIfInBounds_toArray]); (try simp only [List.set_cons_zero]); (try simp only [List.set_cons_succ])
    refine reg_done HO HQ (by kernel_rfl) ?_
    have HFR := Go.Lib.hid hX9.s.s.s.s.s.s.s.s.fr
    clear hX9
    go_wp2
    go_ret
    exact ⟨rfl, HFR.out⟩
end Go.Proofs.YtahcaoenddapoaaDoor
