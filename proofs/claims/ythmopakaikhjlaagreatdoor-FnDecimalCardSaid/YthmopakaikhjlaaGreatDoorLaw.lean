/- laws.FnDecimal: whatever the input: true. -/
import Derived.Test.YthmopakaikhjlaaGreatDoorRwd
import Derived.Test.YthmopakaikhjlaaGreatDoorEdd
import Derived.Test.YthmopakaikhjlaaGreatDoorBase
namespace Go.Proofs.YthmopakaikhjlaaGreatDoor
open Go.RowKit

set_option maxRecDepth 100000 in
theorem law_big (d : ByteArray) (p s : Int) (hd : 2147483647 < (d.size : Int)) (w : World) : Calls Tryz.prog 3 #[.string d, .int .i64 p, .int .i64 s] w fun e w' => e = .returned (.bool true) ∧ Fresh w w' := by
  go_enter Tryz.func3, Tryz.ntmps3
  go_wp2
  go_ret
  exact ⟨rfl, Kept.refl _ _⟩

set_option maxRecDepth 100000 in
set_option maxHeartbeats 1000000 in
theorem law_bad (d : ByteArray) (p s : Int) (hd : ¬ 2147483647 < (d.size : Int)) (hp : p < 1 ∨ 38 < p) (w : World) : Calls Tryz.prog 3 #[.string d, .int .i64 p, .int .i64 s] w fun e w' => e = .returned (.bool true) ∧ Fresh w w' := by
  have hund : undef = Value.tuple #[] := rfl
  go_enter Tryz.func3, Tryz.ntmps3
  go_wp2_with (fail)
  refine (column_bad p s hp _).mono ?_
  rintro e w1 ⟨rfl, hF1⟩
  go_wp2_with (fail)
  refine (works_any _).mono ?_
  rintro e w2 ⟨rfl, hF2⟩
  have HF := Go.Lib.hid ((hF1.alloc _).fresh hF2)
  clear hF1 hF2
  go_wp2
  go_ret
  exact ⟨rfl, HF.out⟩

set_option maxRecDepth 100000 in
set_option maxHeartbeats 1000000 in
theorem law_off (d : ByteArray) (p : Nat) (s : Int) (hd : ¬ 2147483647 < (d.size : Int)) (hp0 : 1 ≤ p) (hp : p ≤ 38) (hs : ¬ (0 ≤ s ∧ s ≤ (p : Int))) (w : World) : Calls Tryz.prog 3 #[.string d, .int .i64 (p : Int), .int .i64 s] w fun e w' => e = .returned (.bool true) ∧ Fresh w w' := by
  have hund : undef = Value.tuple #[] := rfl
  have hc := column_good p s hp0 hp
  rw [decide_eq_false hs] at hc
  have HC := Go.Lib.hid hc
  clear hc hs
  go_enter Tryz.func3, Tryz.ntmps3
  go_wp2_with (fail)
  refine (HC.out _).mono ?_
  rintro e w1 ⟨rfl, hF1⟩
  go_wp2_with (fail)
  refine (works_any _).mono ?_
  rintro e w2 ⟨rfl, hF2⟩
  have HF := Go.Lib.hid ((hF1.alloc _).fresh hF2)
  clear hF1 hF2
  go_wp2
  go_ret
  exact ⟨rfl, HF.out⟩

/-- What is held of the world all through the last statement. -/
structure LS (w0 : World) (c : Nat) (sz p s : Int) (v : Value) (l : List Nat) (w : World) : Prop where
  k : Clm w c 106 sz p s
  b : Bts w v l
  fr : Fresh w0 w
theorem LS.fresh {w0 w w' : World} {c : Nat} {sz p s : Int} {v : Value} {l : List Nat} (h : LS w0 c sz p s v l w) (hk : Fresh w w') : LS w0 c sz p s v l w' := ⟨h.k.fresh hk, h.b.fresh hk, h.fr.fresh hk⟩
/-- .. and bytes that have been made. -/
structure And2 (S : World → Prop) (v : Value) (l : List Nat) (w : World) : Prop where
  s : S w
  b : Bts w v l
theorem And2.fresh {S : World → Prop} (hS : ∀ w w', S w → Fresh w w' → S w') {v : Value} {l : List Nat} : ∀ w w', And2 S v l w → Fresh w w' → And2 S v l w' := fun _ _ h hk => ⟨hS _ _ h.s hk, h.b.fresh hk⟩

theorem bytes_lt (neg : Bool) (a k : Nat) : ∀ b ∈ ((if neg then 0 else 1) :: leB a k : List Nat), b < 256 := by
  intro b hb
  rcases List.mem_cons.1 hb with h | h
  · rw [h]; split <;> decide
  · exact leB_lt a k b h

set_option maxRecDepth 100000 in
set_option maxHeartbeats 1000000 in
theorem law_in (d : ByteArray) (p : Nat) (s : Nat) (hd : ¬ 2147483647 < (d.size : Int)) (hp0 : 1 ≤ p) (hp : p ≤ 38) (hs : s ≤ p) (eb : Addr) (w : World) (he : w.cell? ⟨2, 0, none⟩ = some (eofV eb)) : Calls Tryz.prog 3 #[.string d, .int .i64 (p : Int), .int .i64 (s : Int)] w fun e w' => e = .returned (.bool true) ∧ Fresh w w' := by
  have hund : undef = Value.tuple #[] := rfl
  have hfl : ∀ (a : Addr) (b : Nat) (m : Mode) (W : World), (store a (.float .f64 b) m).run Tryz.prog W = stored Tryz.prog W a (.float .f64 b) m := fun a b m W => run_store Tryz.prog W a _ m rfl
  have hc := column_good p (s : Int) hp0 hp
  rw [decide_eq_true ⟨Int.natCast_nonneg s, Int.ofNat_le.2 hs⟩] at hc
  obtain ⟨z, hz⟩ : ∃ z, 1 + (mag p : Int) = z := ⟨_, rfl⟩
  rw [hz] at hc
  have HC := Go.Lib.hid hc
  have HZ := Go.Lib.hid hz
  have hd2 : d.size ≤ 2147483647 := by omega
  have HP := Go.Lib.hid (And.intro hp0 (And.intro hp (And.intro hs hd2)))
  have HE := Go.Lib.hid he
  clear hc hs hp0 hp hd2 he hz
  go_enter Tryz.func3, Tryz.ntmps3
  go_wp2_with (fail)
  refine (HC.out _).mono ?_
  rintro e w1 ⟨rfl, hF1⟩
  clear HC
  have hk2 := Clm.new w1 106 z (p : Int) (s : Int)
  have hF2 : Fresh w (w1.alloc (.cells #[.int .i64 0, .int .i64 106, .int .i64 z, .int .i64 (p : Int), .int .i64 (s : Int), .string ⟨#[]⟩] 23)) := hF1.alloc _
  obtain ⟨c, hcb⟩ : ∃ c, w1.heap.size = c := ⟨_, rfl⟩
  obtain ⟨W, hW⟩ : ∃ W, w1.alloc (.cells #[.int .i64 0, .int .i64 106, .int .i64 z, .int .i64 (p : Int), .int .i64 (s : Int), .string ⟨#[]⟩] 23) = W := ⟨_, rfl⟩
  rw [hW, hcb] at hk2
  rw [hW] at hF2
  obtain ⟨c0, c1, c2, c3, c4, c5, cf⟩ := hk2
  have H2 := Go.Lib.hid (And.intro (show Clm W c 106 z (p : Int) (s : Int) from ⟨c0, c1, c2, c3, c4, c5, cf⟩) hF2)
  have HW := Go.Lib.hid hW
  clear cf hF2 hF1 hW
  go_wp2_with (fail)
  have hW := HW.out
  rw [hW]
  clear hW hcb HW
  refine (proper_any d p z (s : Int) HP.out.2.2.2 HP.out.2.1 _).mono ?_
  rintro e w3 ⟨⟨b, rfl, hb⟩, hF3⟩
  have H3 := Go.Lib.hid (And.intro (H2.out.1.fresh hF3) (H2.out.2.fresh hF3))
  clear c0 c1 c2 c3 c4 c5 hF3 H2
  cases b with
  | false =>
    clear hb
    go_wp2_with (fail)
    refine (works_any _).mono ?_
    rintro e w4 ⟨rfl, hF4⟩
    have HF := Go.Lib.hid (H3.out.2.fresh hF4)
    clear hF4
    go_wp2
    go_ret
    exact ⟨rfl, HF.out⟩
  | true =>
    obtain ⟨neg, ds, hpr⟩ := hb rfl
    obtain ⟨l, hl⟩ : ∃ l : List Nat, (if neg then 0 else 1) :: leB (dv ds) (mag p) = l := ⟨_, rfl⟩
    have hlt := bytes_lt neg (dv ds) (mag p)
    rw [hl] at hlt
    have hraw : ∀ W : World, Calls Tryz.prog 8 #[colv z (p : Int) (s : Int), cellv d] W fun e w' => ∃ v, e = .returned v ∧ Bts w' v l ∧ Fresh W w' := fun W => Raw_any z (p : Int) (s : Int) d l (fun w => by rw [← hl, ← HZ.out]; exact raw_any d p neg ds (s : Int) hpr HP.out.2.1 w) W
    have henc := encDec_any d p s eb neg ds hpr HP.out.2.1 HP.out.2.2.1 w3 (H3.out.2.held HE.out (fun h => h)) l hl
    have HL := Go.Lib.hid hlt
    have HR := Go.Lib.hid hraw
    have HN := Go.Lib.hid henc
    clear hb hpr hl hlt hraw henc HE HP HZ
    go_wp2_with (fail)
    refine HN.out.mono ?_
    rintro e w4 ⟨v, rfl, hrow, hF4⟩
    have hd0 : LS w c z (p : Int) (s : Int) v l w4 := ⟨H3.out.1.fresh hF4, hrow.bts, H3.out.2.fresh hF4⟩
    have HS := Go.Lib.hid hd0
    clear hrow hF4 HN H3 hd0
    go_upto_region 7 with (fail)
    have hd7 := HS.out.fresh (Kept.refl _ _).drew
    clear HS
    refine reg_open (S := LS w c z (p : Int) (s : Int) v l) 15 #[false, false, false, false, false, false, false, false, false, false, false, false, false, false, false] (by kernel_rfl) (by kernel_rfl) (by kernel_rfl) (by intro c a d v w h; cases d <;> exact h) (by kernel_rfl) (fun OPS QQ HO HQ hQP hSel => ?_)
    generalize w4.drew = v0 at *
    refine reg_take (i := 0) (oi := ?o_1) (v := ?v_1) (listed' := #[true, false, false, false, false, false, false, false, false, false, false, false, false, false, false]) HO ?hi_1 hSel ?hf_1 ?hr_1 hQP (by kernel_rfl) ?hw_1 ?h_1 hd7 ?_
    case hi_1 => (simp only [List.getElem?_toArray, List.getElem?_cons_zero]; rfl)
    case hf_1 => kernel_rfl
    case hr_1 => kernel_rfl
    case hw_1 => rfl
    case h_1 => (intro W hSw; go_simp; first | done | with_reducible rfl)
    (try simp only [Act.put]); (try simp only [List.setIfInBounds_toArray]); (try simp only [List.set_cons_zero]); (try simp only [List.set_cons_succ])
    refine reg_take (i := 1) (oi := ?o_2) (v := ?v_2) (listed' := #[true, true, false, false, false, false, false, false, false, false, false, false, false, false, false]) HO ?hi_2 hSel ?hf_2 ?hr_2 hQP (by kernel_rfl) ?hw_2 ?h_2 hd7 ?_
    case hi_2 => (simp only [List.getElem?_toArray, List.getElem?_cons_succ, List.getElem?_cons_zero]; rfl)
    case hf_2 => kernel_rfl
    case hr_2 => kernel_rfl
    case hw_2 => rfl
    case h_2 => (intro W hSw; go_simp; first | done | with_reducible rfl)
    (try simp only [Act.put]); (try simp only [List.setIfInBounds_toArray]); (try simp only [List.set_cons_zero]); (try simp only [List.set_cons_succ])
    refine reg_take (i := 2) (oi := ?o_3) (v := ?v_3) (listed' := #[true, true, true, false, false, false, false, false, false, false, false, false, false, false, false]) HO ?hi_3 hSel ?hf_3 ?hr_3 hQP (by kernel_rfl) ?hw_3 ?h_3 hd7 ?_
    case hi_3 => (simp only [List.getElem?_toArray, List.getElem?_cons_succ, List.getElem?_cons_zero]; rfl)
    case hf_3 => kernel_rfl
    case hr_3 => kernel_rfl
    case hw_3 => rfl
    case h_3 => (intro W hSw; go_simp; first | done | with_reducible rfl)
    (try simp only [Act.put]); (try simp only [List.setIfInBounds_toArray]); (try simp only [List.set_cons_zero]); (try simp only [List.set_cons_succ])
    refine reg_take (i := 3) (oi := ?o_4) (v := ?v_4) (listed' := #[true, true, true, true, false, false, false, false, false, false, false, false, false, false, false]) HO ?hi_4 hSel ?hf_4 ?hr_4 hQP (by kernel_rfl) ?hw_4 ?h_4 hd7 ?_
    case hi_4 => (simp only [List.getElem?_toArray, List.getElem?_cons_succ, List.getElem?_cons_zero]; rfl)
    case hf_4 => kernel_rfl
    case hr_4 => kernel_rfl
    case hw_4 => rfl
    case h_4 => (intro W hSw; have q := str_of hSw.b HL.out; go_simp; first | done | with_reducible rfl)
    (try simp only [Act.put]); (try simp only [List.setIfInBounds_toArray]); (try simp only [List.set_cons_zero]); (try simp only [List.set_cons_succ])
    refine reg_take (i := 4) (oi := ?o_5) (v := ?v_5) (listed' := #[true, true, true, true, true, false, false, false, false, false, false, false, false, false, false]) HO ?hi_5 hSel ?hf_5 ?hr_5 hQP (by kernel_rfl) ?hw_5 ?h_5 hd7 ?_
    case hi_5 => (simp only [List.getElem?_toArray, List.getElem?_cons_succ, List.getElem?_cons_zero]; rfl)
    case hf_5 => kernel_rfl
    case hr_5 => kernel_rfl
    case hw_5 => rfl
    case h_5 => (intro W hSw; obtain ⟨c0, c1, c2, c3, c4, c5, cf⟩ := hSw.k; go_simp; first | done | with_reducible rfl)
    (try simp only [Act.put]); (try simp only [List.setIfInBounds_toArray]); (try simp only [List.set_cons_zero]); (try simp only [List.set_cons_succ])
    refine reg_take (i := 5) (oi := ?o_6) (v := ?v_6) (listed' := #[true, true, true, true, true, true, false, false, false, false, false, false, false, false, false]) HO ?hi_6 hSel ?hf_6 ?hr_6 hQP (by kernel_rfl) ?hw_6 ?h_6 hd7 ?_
    case hi_6 => (simp only [List.getElem?_toArray, List.getElem?_cons_succ, List.getElem?_cons_zero]; rfl)
    case hf_6 => kernel_rfl
    case hr_6 => kernel_rfl
    case hw_6 => rfl
    case h_6 => (intro W hSw; go_simp; first | done | with_reducible rfl)
    (try simp only [Act.put]); (try simp only [List.setIfInBounds_toArray]); (try simp only [List.set_cons_zero]); (try simp only [List.set_cons_succ])
    refine reg_take (i := 6) (oi := ?o_7) (v := ?v_7) (listed' := #[true, true, true, true, true, true, true, false, false, false, false, false, false, false, false]) HO ?hi_7 hSel ?hf_7 ?hr_7 hQP (by kernel_rfl) ?hw_7 ?h_7 hd7 ?_
    case hi_7 => (simp only [List.getElem?_toArray, List.getElem?_cons_succ, List.getElem?_cons_zero]; rfl)
    case hf_7 => kernel_rfl
    case hr_7 => kernel_rfl
    case hw_7 => rfl
    case h_7 => (intro W hSw; go_simp; first | done | with_reducible rfl)
    (try simp only [Act.put]); (try simp only [List.setIfInBounds_toArray]); (try simp only [List.set_cons_zero]); (try simp only [List.set_cons_succ])
    refine reg_one (i := 7) (o := ?o_8) (listed' := #[true, true, true, true, true, true, true, true, false, false, false, false, false, false, false]) HO ?hi_8 ?hr_8 (by kernel_rfl) ?hw_8 (fun K hK => ?_)
    case hi_8 => (simp only [List.getElem?_toArray, List.getElem?_cons_succ, List.getElem?_cons_zero]; rfl)
    case hr_8 => kernel_rfl
    case hw_8 => rfl
    go_simp
    go_at_call 8
    refine (HR.out _).mono ?_
    rintro e x1 ⟨y1, rfl, hb1, hF1⟩
    refine hK.out _ _ (LS.fresh hd7 hF1) (fun hH => ?_)
    clear hK K
    refine reg_strong (S' := And2 (LS w c z (p : Int) (s : Int) v l) y1 l) (fun _ h => h.s) _ _ _ _ ?_
    have hX1 : And2 (LS w c z (p : Int) (s : Int) v l) y1 l x1 := ⟨hH, hb1⟩
    clear hH hb1 hF1 hd7
    refine reg_take (i := 8) (oi := ?o_9) (v := ?v_9) (listed' := #[true, true, true, true, true, true, true, true, true, false, false, false, false, false, false]) HO ?hi_9 hSel ?hf_9 ?hr_9 hQP (by kernel_rfl) ?hw_9 ?h_9 hX1 ?_
    case hi_9 => (simp only [List.getElem?_toArray, List.getElem?_cons_succ, List.getElem?_cons_zero]; rfl)
    case hf_9 => kernel_rfl
    case hr_9 => kernel_rfl
    case hw_9 => rfl
    case h_9 => (intro W hSw; have q := str_of hSw.b HL.out; go_simp; first | done | with_reducible rfl)
    (try simp only [Act.put]); (try simp only [List.setIfInBounds_toArray]); (try simp only [List.set_cons_zero]); (try simp only [List.set_cons_succ])
    refine reg_take (i := 9) (oi := ?o_10) (v := ?v_10) (listed' := #[true, true, true, true, true, true, true, true, true, true, false, false, false, false, false]) HO ?hi_10 hSel ?hf_10 ?hr_10 hQP (by kernel_rfl) ?hw_10 ?h_10 hX1 ?_
    case hi_10 => (simp only [List.getElem?_toArray, List.getElem?_cons_succ, List.getElem?_cons_zero]; rfl)
    case hf_10 => kernel_rfl
    case hr_10 => kernel_rfl
    case hw_10 => rfl
    case h_10 => (intro W hSw; go_simp; first | done | with_reducible rfl)
    (try simp only [Act.put]); (try simp only [List.setIfInBounds_toArray]); (try simp only [List.set_cons_zero]); (try simp only [List.set_cons_succ])
    refine reg_take (i := 10) (oi := ?o_11) (v := ?v_11) (listed' := #[true, true, true, true, true, true, true, true, true, true, true, false, false, false, false]) HO ?hi_11 hSel ?hf_11 ?hr_11 hQP (by kernel_rfl) ?hw_11 ?h_11 hX1 ?_
    case hi_11 => (simp only [List.getElem?_toArray, List.getElem?_cons_succ, List.getElem?_cons_zero]; rfl)
    case hf_11 => kernel_rfl
    case hr_11 => kernel_rfl
    case hw_11 => rfl
    case h_11 => (intro W hSw; go_simp; first | done | with_reducible rfl)
    (try simp only [Act.put]); (try simp only [List.setIfInBounds_toArray]); (try simp only [List.set_cons_zero]); (try simp only [List.set_cons_succ])
    refine reg_take (i := 11) (oi := ?o_12) (v := ?v_12) (listed' := #[true, true, true, true, true, true, true, true, true, true, true, true, false, false, false]) HO ?hi_12 hSel ?hf_12 ?hr_12 hQP (by kernel_rfl) ?hw_12 ?h_12 hX1 ?_
    case hi_12 => (simp only [List.getElem?_toArray, List.getElem?_cons_succ, List.getElem?_cons_zero]; rfl)
    case hf_12 => kernel_rfl
    case hr_12 => kernel_rfl
    case hw_12 => rfl
    case h_12 => (intro W hSw; go_simp; first | done | with_reducible rfl)
    (try simp only [Act.put]); (try simp only [List.setIfInBounds_toArray]); (try simp only [List.set_cons_zero]); (try simp only [List.set_cons_succ])
    refine reg_one (i := 12) (o := ?o_13) (listed' := #[true, true, true, true, true, true, true, true, true, true, true, true, true, false, false]) HO ?hi_13 ?hr_13 (by kernel_rfl) ?hw_13 (fun K hK => ?_)
    case hi_13 => (simp only [List.getElem?_toArray, List.getElem?_cons_succ, List.getElem?_cons_zero]; rfl)
    case hr_13 => kernel_rfl
    case hw_13 => rfl
    go_simp
    go_at_call 6
    refine (works_any _).mono ?_
    rintro e x9 ⟨rfl, hF9⟩
    refine hK.out _ _ ((And2.fresh (fun _ _ h hk => LS.fresh h hk)) _ _ hX1 hF9) (fun hX9 => ?_)
    clear hK K hF9 hX1
    refine reg_take (i := 13) (oi := ?o_14) (v := ?v_14) (listed' := #[true, true, true, true, true, true, true, true, true, true, true, true, true, true, false]) HO ?hi_14 hSel ?hf_14 ?hr_14 hQP (by kernel_rfl) ?hw_14 ?h_14 hX9 ?_
    case hi_14 => (simp only [List.getElem?_toArray, List.getElem?_cons_succ, List.getElem?_cons_zero]; rfl)
    case hf_14 => kernel_rfl
    case hr_14 => kernel_rfl
    case hw_14 => rfl
    case h_14 => (intro W hSw; go_simp; first | done | with_reducible rfl)
    (try simp only [Act.put]); (try simp only [List.setIfInBounds_toArray]); (try simp only [List.set_cons_zero]); (try simp only [List.set_cons_succ])
    refine reg_take (i := 14) (oi := ?o_15) (v := ?v_15) (listed' := #[true, true, true, true, true, true, true, true, true, true, true, true, true, true, true]) HO ?hi_15 hSel ?hf_15 ?hr_15 hQP (by kernel_rfl) ?hw_15 ?h_15 hX9 ?_
    case hi_15 => (simp only [List.getElem?_toArray, List.getElem?_cons_succ, List.getElem?_cons_zero]; rfl)
    case hf_15 => kernel_rfl
    case hr_15 => kernel_rfl
    case hw_15 => rfl
    case h_15 => (intro W hSw; go_simp; first | done | with_reducible rfl)
    (try simp only [Act.put]); (try simp only [List.setIfInBounds_toArray]); (try simp only [List.set_cons_zero]); (try simp only [List.set_cons_succ])
    refine reg_done HO HQ (by kernel_rfl) ?_
    have HFR := Go.Lib.hid hX9.s.fr
    clear hX9 HO HQ hQP hSel
    go_wp2
    go_ret
    exact ⟨rfl, HFR.out⟩
end Go.Proofs.YthmopakaikhjlaaGreatDoor
