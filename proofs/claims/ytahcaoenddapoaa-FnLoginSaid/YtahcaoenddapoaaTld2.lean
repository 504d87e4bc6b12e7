/- spec.Told: the payload tells the login. (Printed by gentld2.py.) -/
import Derived.Test.YtahcaoenddapoaaTld1
import Derived.Deep.QuietTactic
import Derived.BigQuiet
import Derived.IntWalk
import Derived.Test.YtahcaoenddapoaaStp2
namespace Go.Proofs.Ytahcaoenddapoaa
open Go.RowKit

theorem five_new (w : World) (t0 t1 t2 t3 t4 : Int) (T : TypeId) : ∀ (j : Nat) (h : j < 5),
    (w.alloc (.cells #[.int .u32 t0, .int .u32 t1, .int .u32 t2, .int .u32 t3, .int .u32 t4] T)).cell? ⟨w.heap.size, j, none⟩ = some (.int .u32 ([t0, t1, t2, t3, t4][j]'h)) := by
  intro j hj
  rw [cell_of_row _ _ _ _ _ (0, 0) (heap_alloc_new _ _)]
  match j, hj with
  | 0, _ => rfl
  | 1, _ => rfl
  | 2, _ => rfl
  | 3, _ => rfl
  | 4, _ => rfl
  | j + 5, hj => omega

theorem nine_new (w : World) (v0 v1 v2 v3 v4 v5 v6 v7 v8 : Value) (T : TypeId) : ∀ (j : Nat) (h : j < 9),
    (w.alloc (.cells #[v0, v1, v2, v3, v4, v5, v6, v7, v8] T)).cell? ⟨w.heap.size, j, none⟩ = some ([v0, v1, v2, v3, v4, v5, v6, v7, v8][j]'h) := by
  intro j hj
  rw [cell_of_row _ _ _ _ _ (0, 0) (heap_alloc_new _ _)]
  match j, hj with
  | 0, _ => rfl
  | 1, _ => rfl
  | 2, _ => rfl
  | 3, _ => rfl
  | 4, _ => rfl
  | 5, _ => rfl
  | 6, _ => rfl
  | 7, _ => rfl
  | 8, _ => rfl
  | j + 9, hj => omega

/-- A login's cells, as the box has them. -/
structure Bxd (lb : Nat) (x : Lg) (w : World) : Prop where
  c0 : w.cell? ⟨lb, 0, none⟩ = some (.int .u32 x.t0)
  c1 : w.cell? ⟨lb, 1, none⟩ = some (.int .u32 x.t1)
  c2 : w.cell? ⟨lb, 2, none⟩ = some (.int .u32 x.t2)
  c3 : w.cell? ⟨lb, 3, none⟩ = some (.int .u32 x.t3)
  c4 : w.cell? ⟨lb, 4, none⟩ = some (.int .u32 x.t4)
  c5 : w.cell? ⟨lb, 5, none⟩ = some (.int .i64 x.f1)
  c6 : w.cell? ⟨lb, 6, none⟩ = some (.int .i64 x.f2)
  c7 : w.cell? ⟨lb, 7, none⟩ = some (.int .i64 x.f3)
  c8 : w.cell? ⟨lb, 8, none⟩ = some (.int .i64 x.f4)
  c9 : w.cell? ⟨lb, 9, none⟩ = some (.int .i64 x.off)
  c10 : w.cell? ⟨lb, 10, none⟩ = some (.int .u32 x.lcid)
  c11 : w.cell? ⟨lb, 11, none⟩ = some (.string x.s0)
  c12 : w.cell? ⟨lb, 12, none⟩ = some (.string x.s1)
  c13 : w.cell? ⟨lb, 13, none⟩ = some (.string x.s2)
  c14 : w.cell? ⟨lb, 14, none⟩ = some (.string x.s3)
  c15 : w.cell? ⟨lb, 15, none⟩ = some (.string x.s4)
  c16 : w.cell? ⟨lb, 16, none⟩ = some (.string x.s5)
  c17 : w.cell? ⟨lb, 17, none⟩ = some (.string x.s6)
  c18 : w.cell? ⟨lb, 18, none⟩ = some (.string x.s7)
theorem Bxd.fresh {lb : Nat} {x : Lg} {w w' : World} (h : Bxd lb x w) (hk : Fresh w w') : Bxd lb x w' :=
  have c := fun (j : Nat) {u : Value} (hc : w.cell? ⟨lb, j, none⟩ = some u) => hk.held (p := ⟨lb, j, none⟩) hc (fun h => h)
  ⟨c 0 h.c0, c 1 h.c1, c 2 h.c2, c 3 h.c3, c 4 h.c4, c 5 h.c5, c 6 h.c6, c 7 h.c7, c 8 h.c8, c 9 h.c9, c 10 h.c10, c 11 h.c11, c 12 h.c12, c 13 h.c13, c 14 h.c14, c 15 h.c15, c 16 h.c16, c 17 h.c17, c 18 h.c18⟩
theorem bxd_new (x : Lg) (w : World) (T : TypeId) : ∃ wb, w.alloc (.cells #[.int .u32 x.t0, .int .u32 x.t1, .int .u32 x.t2, .int .u32 x.t3, .int .u32 x.t4, .int .i64 x.f1, .int .i64 x.f2, .int .i64 x.f3, .int .i64 x.f4, .int .i64 x.off, .int .u32 x.lcid, .string x.s0, .string x.s1, .string x.s2, .string x.s3, .string x.s4, .string x.s5, .string x.s6, .string x.s7] T) = wb ∧ Bxd w.heap.size x wb ∧ Fresh w wb ∧ wb.heap.size = w.heap.size + 1 := by
  have hnew : (w.alloc (.cells #[.int .u32 x.t0, .int .u32 x.t1, .int .u32 x.t2, .int .u32 x.t3, .int .u32 x.t4, .int .i64 x.f1, .int .i64 x.f2, .int .i64 x.f3, .int .i64 x.f4, .int .i64 x.off, .int .u32 x.lcid, .string x.s0, .string x.s1, .string x.s2, .string x.s3, .string x.s4, .string x.s5, .string x.s6, .string x.s7] T)).heap[w.heap.size]? = _ := heap_alloc_new _ _
  have c := fun j => cell_of_row (w.alloc (.cells #[.int .u32 x.t0, .int .u32 x.t1, .int .u32 x.t2, .int .u32 x.t3, .int .u32 x.t4, .int .i64 x.f1, .int .i64 x.f2, .int .i64 x.f3, .int .i64 x.f4, .int .i64 x.off, .int .u32 x.lcid, .string x.s0, .string x.s1, .string x.s2, .string x.s3, .string x.s4, .string x.s5, .string x.s6, .string x.s7] T)) w.heap.size j _ _ _ hnew
  exact ⟨_, rfl, ⟨c 0, c 1, c 2, c 3, c 4, c 5, c 6, c 7, c 8, c 9, c 10, c 11, c 12, c 13, c 14, c 15, c 16, c 17, c 18⟩, (Kept.refl _ _).alloc _, by simp⟩

set_option maxRecDepth 100000 in
set_option maxHeartbeats 4000000 in
theorem told_any (x : Lg) (hf : x.fits) (hwf : x.wf) (T : List Nat) (hT : Tell T x) (A : Option Addr) (n c : Nat) (w : World) (hx : Bts w (.slice A n c) T) :
    Calls Try.prog 22 #[.slice A n c, x.val] w fun e w' => e = .returned (.bool true) ∧ Fresh w w' := by
  have hlen := hx.len
  have h94 : 94 ≤ n := by have := hT.lo; omega
  have h2000 : n ≤ 2000 := by have := hT.hi; omega
  obtain ⟨b, ob, rfl⟩ : ∃ b ob, A = some ⟨b, ob, none⟩ := by
    obtain ⟨A', c', e, _, _, h3, h4⟩ := id hx
    injection e with e1 e2 e3
    subst e1
    cases A with
    | none => have := (h3 rfl).1; subst this; simp at hlen; omega
    | some ad =>
      obtain ⟨b, o, rfl, _⟩ := h4 ad rfl
      exact ⟨b, o, rfl⟩
  have hroom := hx.room
  have HT := Go.Lib.hid hT
  have HX := Go.Lib.hid hx
  have HWF := Go.Lib.hid hwf
  have HLE := Go.Lib.hid hlen
  obtain ⟨z0, z1, z2, z3, z4, z5, z6, z7⟩ := hf
  obtain ⟨wb, hwb, hBx, hFb, hsb⟩ := bxd_new x w 38
  have HWB := Go.Lib.hid hwb
  have HBX := Go.Lib.hid hBx
  have HFB := Go.Lib.hid hFb
  have HSB := Go.Lib.hid hsb
  clear hT hx hwf hlen hwb hBx hFb hsb
  have i94 : (94 : Int) ≤ (n : Int) := by omega
  have inc : (n : Int) ≤ (c : Int) := by omega
  go_enter Try.func22, Try.ntmps22
  go_wp2_with (fail)
  rw [HWB.out]
  have hN0 : Go.RowKit.Hid (numAt T 0 4 = n) := Go.Lib.hid (HT.out.total.trans HLE.out.symm)
  refine (number_any (T.take 4) (fun y hy => HT.out.byte y (List.mem_of_mem_take hy)) _ _ _ _ ((HX.out.fresh HFB.out).head 4 (by omega)) (by omega)).mono ?_
  rintro e y ⟨rfl, hy⟩
  replace hy := hy.symm
  subst hy
  rw [show leVal (T.take 4) = n from hN0.out]
  obtain ⟨c0, c1, c2, c3, c4, c5, c6, c7, c8, c9, c10, c11, c12, c13, c14, c15, c16, c17, c18⟩ := HBX.out
  go_wp2_with (fail)
  obtain ⟨wc, hwc⟩ : ∃ wc, wb.alloc (.cells #[.int .u32 x.t0, .int .u32 x.t1, .int .u32 x.t2, .int .u32 x.t3, .int .u32 x.t4] 34) = wc := ⟨_, rfl⟩
  have hfv := five_new wb x.t0 x.t1 x.t2 x.t3 x.t4 34
  have hF1 : Fresh wb (wb.alloc (.cells #[.int .u32 x.t0, .int .u32 x.t1, .int .u32 x.t2, .int .u32 x.t3, .int .u32 x.t4] 34)) := (Kept.refl _ _).alloc _
  have hsc : (wb.alloc (.cells #[.int .u32 x.t0, .int .u32 x.t1, .int .u32 x.t2, .int .u32 x.t3, .int .u32 x.t4] 34)).heap.size = w.heap.size + 1 + 1 := by simp [HSB.out]
  rw [hwc] at hF1 hsc hfv ⊢
  have HFV := Go.Lib.hid hfv
  have HFC := Go.Lib.hid (HFB.out.fresh hF1)
  have HBC := Go.Lib.hid (HBX.out.fresh hF1)
  have HSC := Go.Lib.hid hsc
  have HB1 := Go.Lib.hid (HX.out.fresh HFC.out)
  clear hwc hF1 hsc hfv c0 c1 c2 c3 c4 c5 c6 c7 c8 c9 c10 c11 c12 c13 c14 c15 c16 c17 c18
  go_loop [38] (fun i => ∃ j : Nat, j ≤ 5 ∧ i = .int .i64 (j : Int)) (fun i => 5 - (intOf i).toNat)
  case atStart => exact ⟨0, by omega, rfl⟩
  case round =>
    obtain ⟨j, hj, rfl⟩ := hrel
    by_cases hlt : j < 5
    · have hcj := HFV.out j hlt
      have hnj := HT.out.num j hlt
      have hz : 0 ≤ ([x.t0, x.t1, x.t2, x.t3, x.t4][j]'hlt) ∧ ([x.t0, x.t1, x.t2, x.t3, x.t4][j]'hlt) < 4294967296 := by
        obtain ⟨w0, w1, w2, w3, w4, _⟩ := HWF.out
        match j, hlt with
        | 0, _ => exact w0
        | 1, _ => exact w1
        | 2, _ => exact w2
        | 3, _ => exact w3
        | 4, _ => exact w4
        | j + 5, h => omega
      generalize ([x.t0, x.t1, x.t2, x.t3, x.t4][j]'hlt) = z at *
      have HNJ := Go.Lib.hid hnj
      clear hnj
      have i1 : ((j : Nat) : Int) < 5 := by omega
      have i2 : (8 : Int) + 4 * (j : Int) ≤ (n : Int) := by omega
      go_wp2_with (fail)
      rw [show 8 + 4 * j - (4 + 4 * j) = 4 from by omega]
      refine (numAt_any HB1.out HT.out.byte (4 + 4 * j) 4 (by omega) (by omega)).mono ?_
      rintro e y ⟨rfl, hy⟩
      replace hy := hy.symm
      subst hy
      rw [HNJ.out]
      obtain ⟨hz0, hz1⟩ := hz
      go_wp2
      go_round
      case rel => exact ⟨j + 1, by omega, by go_num⟩
      case measure => simp [intOf]; omega
    · obtain rfl : j = 5 := by omega
      obtain ⟨c0, c1, c2, c3, c4, c5, c6, c7, c8, c9, c10, c11, c12, c13, c14, c15, c16, c17, c18⟩ := HBC.out
      go_wp2_with (fail)
      obtain ⟨wd, hwd⟩ : ∃ wd, wc.alloc (.cells #[.int .i64 x.f1, .int .i64 x.f2, .int .i64 x.f3, .int .i64 x.f4] 3) = wd := ⟨_, rfl⟩
      have hfv := four_new wc x.f1 x.f2 x.f3 x.f4 3
      have hF1 : Fresh wc (wc.alloc (.cells #[.int .i64 x.f1, .int .i64 x.f2, .int .i64 x.f3, .int .i64 x.f4] 3)) := (Kept.refl _ _).alloc _
      try rw [← HSC.out]
      rw [hwd] at hF1 hfv ⊢
      have HFW := Go.Lib.hid hfv
      have HFD := Go.Lib.hid (HFC.out.fresh hF1)
      have HBD := Go.Lib.hid (HBC.out.fresh hF1)
      have HB2 := Go.Lib.hid (HX.out.fresh HFD.out)
      clear hwd hF1 hfv c0 c1 c2 c3 c4 c5 c6 c7 c8 c9 c10 c11 c12 c13 c14 c15 c16 c17 c18
      go_loop [66] (fun i => ∃ j : Nat, j ≤ 4 ∧ i = .int .i64 (j : Int)) (fun i => 4 - (intOf i).toNat)
      case atStart => exact ⟨0, by omega, rfl⟩
      case round =>
        obtain ⟨j, hj, rfl⟩ := hrel
        by_cases hlt : j < 4
        · have hcj := HFW.out j hlt
          have hnj := HT.out.flag j hlt
          have hz9 := numAt_byte HT.out.byte (24 + j)
          have hby := byte_at HB2.out (24 + j) (by omega) hnj
          generalize ([x.f1, x.f2, x.f3, x.f4][j]'hlt) = z at *
          have i1 : ((j : Nat) : Int) < 4 := by omega
          have i2 : (24 : Int) + (j : Int) < (n : Int) := by omega
          have hz0 : 0 ≤ z := by omega
          have hz1 : z ≤ 255 := by omega
          clear hnj hz9
          go_wp2
          exact ⟨⟨j + 1, by omega, by go_num⟩, by simp [intOf]; omega⟩
        · obtain rfl : j = 4 := by omega
          obtain ⟨c0, c1, c2, c3, c4, c5, c6, c7, c8, c9, c10, c11, c12, c13, c14, c15, c16, c17, c18⟩ := HBD.out
          go_wp2_with (fail)
          have hund : undef = Value.tuple #[] := rfl
          have hoff := HT.out.off
          have hlc := HT.out.lcid
          have hno := numAt_lt HT.out.byte 28 4
          have hnl := numAt_lt HT.out.byte 32 4
          have C1 : ∀ W, Fresh wd W → Calls Try.prog 50 #[.slice (some ⟨b, ob + 28, none⟩) 4 (c - 28)] W fun e w' => e = .returned (.int .u64 (numAt T 28 4 : Int)) ∧ w' = W := fun W hW => numAt_any (HB2.out.fresh hW) HT.out.byte 28 4 (by omega) (by omega)
          have C2 : ∀ W, Fresh wd W → Calls Try.prog 50 #[.slice (some ⟨b, ob + 32, none⟩) 4 (c - 32)] W fun e w' => e = .returned (.int .u64 (numAt T 32 4 : Int)) ∧ w' = W := fun W hW => numAt_any (HB2.out.fresh hW) HT.out.byte 32 4 (by omega) (by omega)
          generalize numAt T 28 4 = no at *
          generalize numAt T 32 4 = nl at *
          have HC1 := Go.Lib.hid C1
          have HC2 := Go.Lib.hid C2
          have hnoi : (no : Int) < 4294967296 := by omega
          have hnli : (nl : Int) < 4294967296 := by omega
          have hwo : IntKind.u32.wrap (no : Int) = (no : Int) := by rw [IntKind.wrap_u32]; omega
          have HLC := Go.Lib.hid hlc
          rw [← hlc] at c10
          clear C1 C2 hno hnl hlc
          go_quiet ((first | (go_at_call 50; with_reducible exact Calls.quiet_of_same (HC1.out _ ((Kept.refl _ _).drewN _))) | (go_at_call 50; with_reducible exact Calls.quiet_of_same (HC2.out _ ((Kept.refl _ _).drewN _)))))
          go_upto_region 17 with (fail)
          have hx0 := HBD.out.fresh (((Kept.refl wd (fun _ => False)).drewN nq).drew)
          have hG0 := (((Kept.refl wd (fun _ => False)).drewN nq).drew)
          clear c0 c1 c2 c3 c4 c5 c6 c7 c8 c9 c10 c11 c12 c13 c14 c15 c16 c17 c18
          refine reg_open (S := Bxd w.heap.size x) 26 #[false, false, false, false, false, false, false, false, false, false, false, false, false, false, false, false, false, false, false, false, false, false, false, false, false, false] (by kernel_rfl) (by kernel_rfl) (by kernel_rfl) (by intro c a d v w h; cases d <;> exact h) (by kernel_rfl) (fun OPS QQ HO HQ hQP hSel => ?_)
          generalize (wd.drewN nq).drew = x0 at *
          refine reg_take (i := 0) (oi := ?o_1) (v := ?v_1) (listed' := #[true, false, false, false, false, false, false, false, false, false, false, false, false, false, false, false, false, false, false, false, false, false, false, false, false, false]) HO ?hi_1 hSel ?hf_1 ?hr_1 hQP (by kernel_rfl) ?hw_1 ?h_1 hx0 ?_
          case hi_1 => (simp only [List.getElem?_toArray, List.getElem?_cons_zero]; rfl)
          case hf_1 => kernel_rfl
          case hr_1 => kernel_rfl
          case hw_1 => rfl
          case h_1 => (intro W hSw; go_simp; first | done | with_reducible rfl)
          (try simp only [Act.put]); (try simp only [List.setIfInBounds_toArray]); (try simp only [List.set_cons_zero]); (try simp only [List.set_cons_succ])
          refine reg_take (i := 1) (oi := ?o_2) (v := ?v_2) (listed' := #[true, true, false, false, false, false, false, false, false, false, false, false, false, false, false, false, false, false, false, false, false, false, false, false, false, false]) HO ?hi_2 hSel ?hf_2 ?hr_2 hQP (by kernel_rfl) ?hw_2 ?h_2 hx0 ?_
          case hi_2 => (simp only [List.getElem?_toArray, List.getElem?_cons_succ, List.getElem?_cons_zero]; rfl)
          case hf_2 => kernel_rfl
          case hr_2 => kernel_rfl
          case hw_2 => rfl
          case h_2 => (intro W hSw; have q := hSw.c11; go_simp; first | done | with_reducible rfl)
          (try simp only [Act.put]); (try simp only [List.setIfInBounds_toArray]); (try simp only [List.set_cons_zero]); (try simp only [List.set_cons_succ])
          refine reg_take (i := 3) (oi := ?o_3) (v := ?v_3) (listed' := #[true, true, false, true, false, false, false, false, false, false, false, false, false, false, false, false, false, false, false, false, false, false, false, false, false, false]) HO ?hi_3 hSel ?hf_3 ?hr_3 hQP (by kernel_rfl) ?hw_3 ?h_3 hx0 ?_
          case hi_3 => (simp only [List.getElem?_toArray, List.getElem?_cons_succ, List.getElem?_cons_zero]; rfl)
          case hf_3 => kernel_rfl
          case hr_3 => kernel_rfl
          case hw_3 => rfl
          case h_3 => (intro W hSw; go_simp; first | done | with_reducible rfl)
          (try simp only [Act.put]); (try simp only [List.setIfInBounds_toArray]); (try simp only [List.set_cons_zero]); (try simp only [List.set_cons_succ])
          refine reg_take (i := 4) (oi := ?o_4) (v := ?v_4) (listed' := #[true, true, false, true, true, false, false, false, false, false, false, false, false, false, false, false, false, false, false, false, false, false, false, false, false, false]) HO ?hi_4 hSel ?hf_4 ?hr_4 hQP (by kernel_rfl) ?hw_4 ?h_4 hx0 ?_
          case hi_4 => (simp only [List.getElem?_toArray, List.getElem?_cons_succ, List.getElem?_cons_zero]; rfl)
          case hf_4 => kernel_rfl
          case hr_4 => kernel_rfl
          case hw_4 => rfl
          case h_4 => (intro W hSw; have q := hSw.c12; go_simp; first | done | with_reducible rfl)
          (try simp only [Act.put]); (try simp only [List.setIfInBounds_toArray]); (try simp only [List.set_cons_zero]); (try simp only [List.set_cons_succ])
          refine reg_take (i := 6) (oi := ?o_5) (v := ?v_5) (listed' := #[true, true, false, true, true, false, true, false, false, false, false, false, false, false, false, false, false, false, false, false, false, false, false, false, false, false]) HO ?hi_5 hSel ?hf_5 ?hr_5 hQP (by kernel_rfl) ?hw_5 ?h_5 hx0 ?_
          case hi_5 => (simp only [List.getElem?_toArray, List.getElem?_cons_succ, List.getElem?_cons_zero]; rfl)
          case hf_5 => kernel_rfl
          case hr_5 => kernel_rfl
          case hw_5 => rfl
          case h_5 => (intro W hSw; go_simp; first | done | with_reducible rfl)
          (try simp only [Act.put]); (try simp only [List.setIfInBounds_toArray]); (try simp only [List.set_cons_zero]); (try simp only [List.set_cons_succ])
          refine reg_take (i := 7) (oi := ?o_6) (v := ?v_6) (listed' := #[true, true, false, true, true, false, true, true, false, false, false, false, false, false, false, false, false, false, false, false, false, false, false, false, false, false]) HO ?hi_6 hSel ?hf_6 ?hr_6 hQP (by kernel_rfl) ?hw_6 ?h_6 hx0 ?_
          case hi_6 => (simp only [List.getElem?_toArray, List.getElem?_cons_succ, List.getElem?_cons_zero]; rfl)
          case hf_6 => kernel_rfl
          case hr_6 => kernel_rfl
          case hw_6 => rfl
          case h_6 => (intro W hSw; have q := hSw.c13; go_simp; first | done | with_reducible rfl)
          (try simp only [Act.put]); (try simp only [List.setIfInBounds_toArray]); (try simp only [List.set_cons_zero]); (try simp only [List.set_cons_succ])
          refine reg_take (i := 9) (oi := ?o_7) (v := ?v_7) (listed' := #[true, true, false, true, true, false, true, true, false, true, false, false, false, false, false, false, false, false, false, false, false, false, false, false, false, false]) HO ?hi_7 hSel ?hf_7 ?hr_7 hQP (by kernel_rfl) ?hw_7 ?h_7 hx0 ?_
          case hi_7 => (simp only [List.getElem?_toArray, List.getElem?_cons_succ, List.getElem?_cons_zero]; rfl)
          case hf_7 => kernel_rfl
          case hr_7 => kernel_rfl
          case hw_7 => rfl
          case h_7 => (intro W hSw; go_simp; first | done | with_reducible rfl)
          (try simp only [Act.put]); (try simp only [List.setIfInBounds_toArray]); (try simp only [List.set_cons_zero]); (try simp only [List.set_cons_succ])
          refine reg_take (i := 10) (oi := ?o_8) (v := ?v_8) (listed' := #[true, true, false, true, true, false, true, true, false, true, true, false, false, false, false, false, false, false, false, false, false, false, false, false, false, false]) HO ?hi_8 hSel ?hf_8 ?hr_8 hQP (by kernel_rfl) ?hw_8 ?h_8 hx0 ?_
          case hi_8 => (simp only [List.getElem?_toArray, List.getElem?_cons_succ, List.getElem?_cons_zero]; rfl)
          case hf_8 => kernel_rfl
          case hr_8 => kernel_rfl
          case hw_8 => rfl
          case h_8 => (intro W hSw; have q := hSw.c14; go_simp; first | done | with_reducible rfl)
          (try simp only [Act.put]); (try simp only [List.setIfInBounds_toArray]); (try simp only [List.set_cons_zero]); (try simp only [List.set_cons_succ])
          refine reg_take (i := 12) (oi := ?o_9) (v := ?v_9) (listed' := #[true, true, false, true, true, false, true, true, false, true, true, false, true, false, false, false, false, false, false, false, false, false, false, false, false, false]) HO ?hi_9 hSel ?hf_9 ?hr_9 hQP (by kernel_rfl) ?hw_9 ?h_9 hx0 ?_
          case hi_9 => (simp only [List.getElem?_toArray, List.getElem?_cons_succ, List.getElem?_cons_zero]; rfl)
          case hf_9 => kernel_rfl
          case hr_9 => kernel_rfl
          case hw_9 => rfl
          case h_9 => (intro W hSw; go_simp; first | done | with_reducible rfl)
          (try simp only [Act.put]); (try simp only [List.setIfInBounds_toArray]); (try simp only [List.set_cons_zero]); (try simp only [List.set_cons_succ])
          refine reg_take (i := 13) (oi := ?o_10) (v := ?v_10) (listed' := #[true, true, false, true, true, false, true, true, false, true, true, false, true, true, false, false, false, false, false, false, false, false, false, false, false, false]) HO ?hi_10 hSel ?hf_10 ?hr_10 hQP (by kernel_rfl) ?hw_10 ?h_10 hx0 ?_
          case hi_10 => (simp only [List.getElem?_toArray, List.getElem?_cons_succ, List.getElem?_cons_zero]; rfl)
          case hf_10 => kernel_rfl
          case hr_10 => kernel_rfl
          case hw_10 => rfl
          case h_10 => (intro W hSw; have q := hSw.c15; go_simp; first | done | with_reducible rfl)
          (try simp only [Act.put]); (try simp only [List.setIfInBounds_toArray]); (try simp only [List.set_cons_zero]); (try simp only [List.set_cons_succ])
          refine reg_take (i := 15) (oi := ?o_11) (v := ?v_11) (listed' := #[true, true, false, true, true, false, true, true, false, true, true, false, true, true, false, true, false, false, false, false, false, false, false, false, false, false]) HO ?hi_11 hSel ?hf_11 ?hr_11 hQP (by kernel_rfl) ?hw_11 ?h_11 hx0 ?_
          case hi_11 => (simp only [List.getElem?_toArray, List.getElem?_cons_succ, List.getElem?_cons_zero]; rfl)
          case hf_11 => kernel_rfl
          case hr_11 => kernel_rfl
          case hw_11 => rfl
          case h_11 => (intro W hSw; go_simp; first | done | with_reducible rfl)
          (try simp only [Act.put]); (try simp only [List.setIfInBounds_toArray]); (try simp only [List.set_cons_zero]); (try simp only [List.set_cons_succ])
          refine reg_take (i := 16) (oi := ?o_12) (v := ?v_12) (listed' := #[true, true, false, true, true, false, true, true, false, true, true, false, true, true, false, true, true, false, false, false, false, false, false, false, false, false]) HO ?hi_12 hSel ?hf_12 ?hr_12 hQP (by kernel_rfl) ?hw_12 ?h_12 hx0 ?_
          case hi_12 => (simp only [List.getElem?_toArray, List.getElem?_cons_succ, List.getElem?_cons_zero]; rfl)
          case hf_12 => kernel_rfl
          case hr_12 => kernel_rfl
          case hw_12 => rfl
          case h_12 => (intro W hSw; have q := hSw.c16; go_simp; first | done | with_reducible rfl)
          (try simp only [Act.put]); (try simp only [List.setIfInBounds_toArray]); (try simp only [List.set_cons_zero]); (try simp only [List.set_cons_succ])
          refine reg_take (i := 18) (oi := ?o_13) (v := ?v_13) (listed' := #[true, true, false, true, true, false, true, true, false, true, true, false, true, true, false, true, true, false, true, false, false, false, false, false, false, false]) HO ?hi_13 hSel ?hf_13 ?hr_13 hQP (by kernel_rfl) ?hw_13 ?h_13 hx0 ?_
          case hi_13 => (simp only [List.getElem?_toArray, List.getElem?_cons_succ, List.getElem?_cons_zero]; rfl)
          case hf_13 => kernel_rfl
          case hr_13 => kernel_rfl
          case hw_13 => rfl
          case h_13 => (intro W hSw; go_simp; first | done | with_reducible rfl)
          (try simp only [Act.put]); (try simp only [List.setIfInBounds_toArray]); (try simp only [List.set_cons_zero]); (try simp only [List.set_cons_succ])
          refine reg_take (i := 19) (oi := ?o_14) (v := ?v_14) (listed' := #[true, true, false, true, true, false, true, true, false, true, true, false, true, true, false, true, true, false, true, true, false, false, false, false, false, false]) HO ?hi_14 hSel ?hf_14 ?hr_14 hQP (by kernel_rfl) ?hw_14 ?h_14 hx0 ?_
          case hi_14 => (simp only [List.getElem?_toArray, List.getElem?_cons_succ, List.getElem?_cons_zero]; rfl)
          case hf_14 => kernel_rfl
          case hr_14 => kernel_rfl
          case hw_14 => rfl
          case h_14 => (intro W hSw; have q := hSw.c17; go_simp; first | done | with_reducible rfl)
          (try simp only [Act.put]); (try simp only [List.setIfInBounds_toArray]); (try simp only [List.set_cons_zero]); (try simp only [List.set_cons_succ])
          refine reg_take (i := 21) (oi := ?o_15) (v := ?v_15) (listed' := #[true, true, false, true, true, false, true, true, false, true, true, false, true, true, false, true, true, false, true, true, false, true, false, false, false, false]) HO ?hi_15 hSel ?hf_15 ?hr_15 hQP (by kernel_rfl) ?hw_15 ?h_15 hx0 ?_
          case hi_15 => (simp only [List.getElem?_toArray, List.getElem?_cons_succ, List.getElem?_cons_zero]; rfl)
          case hf_15 => kernel_rfl
          case hr_15 => kernel_rfl
          case hw_15 => rfl
          case h_15 => (intro W hSw; go_simp; first | done | with_reducible rfl)
          (try simp only [Act.put]); (try simp only [List.setIfInBounds_toArray]); (try simp only [List.set_cons_zero]); (try simp only [List.set_cons_succ])
          refine reg_take (i := 22) (oi := ?o_16) (v := ?v_16) (listed' := #[true, true, false, true, true, false, true, true, false, true, true, false, true, true, false, true, true, false, true, true, false, true, true, false, false, false]) HO ?hi_16 hSel ?hf_16 ?hr_16 hQP (by kernel_rfl) ?hw_16 ?h_16 hx0 ?_
          case hi_16 => (simp only [List.getElem?_toArray, List.getElem?_cons_succ, List.getElem?_cons_zero]; rfl)
          case hf_16 => kernel_rfl
          case hr_16 => kernel_rfl
          case hw_16 => rfl
          case h_16 => (intro W hSw; have q := hSw.c18; go_simp; first | done | with_reducible rfl)
          (try simp only [Act.put]); (try simp only [List.setIfInBounds_toArray]); (try simp only [List.set_cons_zero]); (try simp only [List.set_cons_succ])
          refine reg_one (i := 2) (o := ?o_17) (listed' := #[true, true, true, true, true, false, true, true, false, true, true, false, true, true, false, true, true, false, true, true, false, true, true, false, false, false]) HO ?hi_17 ?hr_17 (by kernel_rfl) ?hw_17 (fun K hK => ?_)
          case hi_17 => (simp only [List.getElem?_toArray, List.getElem?_cons_succ, List.getElem?_cons_zero]; rfl)
          case hr_17 => kernel_rfl
          case hw_17 => rfl
          go_simp
          go_at_call 13
          refine (ucs2_any x.s0 (by omega) _).mono ?_
          rintro e x1 ⟨v1, rfl, hr, hG⟩
          refine hK.out _ _ (hx0.fresh hG) (fun hx1 => ?_)
          clear hK K
          obtain ⟨A1, cc1, hv⟩ := hr.slice
          obtain ⟨n1, hn1⟩ : ∃ n, (ucs (runesOf x.s0)).length = n := ⟨_, rfl⟩
          rw [hn1] at hv
          subst hv
          have HN1 := Go.Lib.hid hn1
          have HRR1 := Go.Lib.hid hr.bts
          have HGG1 := Go.Lib.hid hG
          clear hr hG hn1 hx0
          refine reg_one (i := 5) (o := ?o_18) (listed' := #[true, true, true, true, true, true, true, true, false, true, true, false, true, true, false, true, true, false, true, true, false, true, true, false, false, false]) HO ?hi_18 ?hr_18 (by kernel_rfl) ?hw_18 (fun K hK => ?_)
          case hi_18 => (simp only [List.getElem?_toArray, List.getElem?_cons_succ, List.getElem?_cons_zero]; rfl)
          case hr_18 => kernel_rfl
          case hw_18 => rfl
          go_simp
          go_at_call 13
          refine (ucs2_any x.s1 (by omega) _).mono ?_
          rintro e x2 ⟨v2, rfl, hr, hG⟩
          refine hK.out _ _ (hx1.fresh hG) (fun hx2 => ?_)
          clear hK K
          obtain ⟨A2, cc2, hv⟩ := hr.slice
          obtain ⟨n2, hn2⟩ : ∃ n, (ucs (runesOf x.s1)).length = n := ⟨_, rfl⟩
          rw [hn2] at hv
          subst hv
          have HN2 := Go.Lib.hid hn2
          have HRR2 := Go.Lib.hid hr.bts
          have HGG2 := Go.Lib.hid hG
          clear hr hG hn2 hx1
          refine reg_one (i := 8) (o := ?o_19) (listed' := #[true, true, true, true, true, true, true, true, true, true, true, false, true, true, false, true, true, false, true, true, false, true, true, false, false, false]) HO ?hi_19 ?hr_19 (by kernel_rfl) ?hw_19 (fun K hK => ?_)
          case hi_19 => (simp only [List.getElem?_toArray, List.getElem?_cons_succ, List.getElem?_cons_zero]; rfl)
          case hr_19 => kernel_rfl
          case hw_19 => rfl
          go_simp
          go_at_call 12
          refine (mangled_any x.s2 (by omega) _).mono ?_
          rintro e x3 ⟨v3, rfl, hr, hG⟩
          refine hK.out _ _ (hx2.fresh hG) (fun hx3 => ?_)
          clear hK K
          obtain ⟨A3, cc3, hv⟩ := hr.slice
          obtain ⟨n3, hn3⟩ : ∃ n, ((ucs (runesOf x.s2)).map mangle).length = n := ⟨_, rfl⟩
          rw [hn3] at hv
          subst hv
          have HN3 := Go.Lib.hid hn3
          have HRR3 := Go.Lib.hid hr.bts
          have HGG3 := Go.Lib.hid hG
          clear hr hG hn3 hx2
          refine reg_one (i := 11) (o := ?o_20) (listed' := #[true, true, true, true, true, true, true, true, true, true, true, true, true, true, false, true, true, false, true, true, false, true, true, false, false, false]) HO ?hi_20 ?hr_20 (by kernel_rfl) ?hw_20 (fun K hK => ?_)
          case hi_20 => (simp only [List.getElem?_toArray, List.getElem?_cons_succ, List.getElem?_cons_zero]; rfl)
          case hr_20 => kernel_rfl
          case hw_20 => rfl
          go_simp
          go_at_call 13
          refine (ucs2_any x.s3 (by omega) _).mono ?_
          rintro e x4 ⟨v4, rfl, hr, hG⟩
          refine hK.out _ _ (hx3.fresh hG) (fun hx4 => ?_)
          clear hK K
          obtain ⟨A4, cc4, hv⟩ := hr.slice
          obtain ⟨n4, hn4⟩ : ∃ n, (ucs (runesOf x.s3)).length = n := ⟨_, rfl⟩
          rw [hn4] at hv
          subst hv
          have HN4 := Go.Lib.hid hn4
          have HRR4 := Go.Lib.hid hr.bts
          have HGG4 := Go.Lib.hid hG
          clear hr hG hn4 hx3
          refine reg_one (i := 14) (o := ?o_21) (listed' := #[true, true, true, true, true, true, true, true, true, true, true, true, true, true, true, true, true, false, true, true, false, true, true, false, false, false]) HO ?hi_21 ?hr_21 (by kernel_rfl) ?hw_21 (fun K hK => ?_)
          case hi_21 => (simp only [List.getElem?_toArray, List.getElem?_cons_succ, List.getElem?_cons_zero]; rfl)
          case hr_21 => kernel_rfl
          case hw_21 => rfl
          go_simp
          go_at_call 13
          refine (ucs2_any x.s4 (by omega) _).mono ?_
          rintro e x5 ⟨v5, rfl, hr, hG⟩
          refine hK.out _ _ (hx4.fresh hG) (fun hx5 => ?_)
          clear hK K
          obtain ⟨A5, cc5, hv⟩ := hr.slice
          obtain ⟨n5, hn5⟩ : ∃ n, (ucs (runesOf x.s4)).length = n := ⟨_, rfl⟩
          rw [hn5] at hv
          subst hv
          have HN5 := Go.Lib.hid hn5
          have HRR5 := Go.Lib.hid hr.bts
          have HGG5 := Go.Lib.hid hG
          clear hr hG hn5 hx4
          refine reg_one (i := 17) (o := ?o_22) (listed' := #[true, true, true, true, true, true, true, true, true, true, true, true, true, true, true, true, true, true, true, true, false, true, true, false, false, false]) HO ?hi_22 ?hr_22 (by kernel_rfl) ?hw_22 (fun K hK => ?_)
          case hi_22 => (simp only [List.getElem?_toArray, List.getElem?_cons_succ, List.getElem?_cons_zero]; rfl)
          case hr_22 => kernel_rfl
          case hw_22 => rfl
          go_simp
          go_at_call 13
          refine (ucs2_any x.s5 (by omega) _).mono ?_
          rintro e x6 ⟨v6, rfl, hr, hG⟩
          refine hK.out _ _ (hx5.fresh hG) (fun hx6 => ?_)
          clear hK K
          obtain ⟨A6, cc6, hv⟩ := hr.slice
          obtain ⟨n6, hn6⟩ : ∃ n, (ucs (runesOf x.s5)).length = n := ⟨_, rfl⟩
          rw [hn6] at hv
          subst hv
          have HN6 := Go.Lib.hid hn6
          have HRR6 := Go.Lib.hid hr.bts
          have HGG6 := Go.Lib.hid hG
          clear hr hG hn6 hx5
          refine reg_one (i := 20) (o := ?o_23) (listed' := #[true, true, true, true, true, true, true, true, true, true, true, true, true, true, true, true, true, true, true, true, true, true, true, false, false, false]) HO ?hi_23 ?hr_23 (by kernel_rfl) ?hw_23 (fun K hK => ?_)
          case hi_23 => (simp only [List.getElem?_toArray, List.getElem?_cons_succ, List.getElem?_cons_zero]; rfl)
          case hr_23 => kernel_rfl
          case hw_23 => rfl
          go_simp
          go_at_call 13
          refine (ucs2_any x.s6 (by omega) _).mono ?_
          rintro e x7 ⟨v7, rfl, hr, hG⟩
          refine hK.out _ _ (hx6.fresh hG) (fun hx7 => ?_)
          clear hK K
          obtain ⟨A7, cc7, hv⟩ := hr.slice
          obtain ⟨n7, hn7⟩ : ∃ n, (ucs (runesOf x.s6)).length = n := ⟨_, rfl⟩
          rw [hn7] at hv
          subst hv
          have HN7 := Go.Lib.hid hn7
          have HRR7 := Go.Lib.hid hr.bts
          have HGG7 := Go.Lib.hid hG
          clear hr hG hn7 hx6
          refine reg_one (i := 23) (o := ?o_24) (listed' := #[true, true, true, true, true, true, true, true, true, true, true, true, true, true, true, true, true, true, true, true, true, true, true, true, false, false]) HO ?hi_24 ?hr_24 (by kernel_rfl) ?hw_24 (fun K hK => ?_)
          case hi_24 => (simp only [List.getElem?_toArray, List.getElem?_cons_succ, List.getElem?_cons_zero]; rfl)
          case hr_24 => kernel_rfl
          case hw_24 => rfl
          go_simp
          go_at_call 13
          refine (ucs2_any x.s7 (by omega) _).mono ?_
          rintro e x8 ⟨v8, rfl, hr, hG⟩
          refine hK.out _ _ (hx7.fresh hG) (fun hx8 => ?_)
          clear hK K
          obtain ⟨A8, cc8, hv⟩ := hr.slice
          obtain ⟨n8, hn8⟩ : ∃ n, (ucs (runesOf x.s7)).length = n := ⟨_, rfl⟩
          rw [hn8] at hv
          subst hv
          have HN8 := Go.Lib.hid hn8
          have HRR8 := Go.Lib.hid hr.bts
          have HGG8 := Go.Lib.hid hG
          clear hr hG hn8 hx7
          refine reg_one (i := 24) (o := ?o_25) (listed' := #[true, true, true, true, true, true, true, true, true, true, true, true, true, true, true, true, true, true, true, true, true, true, true, true, true, false]) HO ?hi_25 ?hr_25 (by kernel_rfl) ?hw_25 (fun K hK => ?_)
          case hi_25 => (simp only [List.getElem?_toArray, List.getElem?_cons_succ, List.getElem?_cons_zero]; rfl)
          case hr_25 => kernel_rfl
          case hw_25 => rfl
          go_simp
          refine hK.out _ _ (hx8.fresh ((Kept.refl _ _).alloc _)) (fun hx9 => ?_)
          clear hK K
          refine reg_take (i := 25) (oi := ?o_26) (v := ?v_26) (listed' := #[true, true, true, true, true, true, true, true, true, true, true, true, true, true, true, true, true, true, true, true, true, true, true, true, true, true]) HO ?hi_26 hSel ?hf_26 ?hr_26 hQP (by kernel_rfl) ?hw_26 ?h_26 hx9 ?_
          case hi_26 => (simp only [List.getElem?_toArray, List.getElem?_cons_succ, List.getElem?_cons_zero]; rfl)
          case hf_26 => kernel_rfl
          case hr_26 => kernel_rfl
          case hw_26 => rfl
          case h_26 => (intro W hSw; go_simp; first | done | with_reducible rfl)
          (try simp only [Act.put]); (try simp only [List.setIfInBounds_toArray]); (try simp only [List.set_cons_zero]); (try simp only [List.set_cons_succ])
          refine reg_done HO HQ (by kernel_rfl) ?_
          clear HO HQ hQP hSel OPS QQ
          (try simp only [List.set_cons_zero])
          obtain ⟨we, hwe⟩ : ∃ we, x8.alloc (.cells #[.slice A1 n1 cc1, .slice A2 n2 cc2, .slice A3 n3 cc3, .slice A4 n4 cc4, .slice A5 n5 cc5, .slice none 0 0, .slice A6 n6 cc6, .slice A7 n7 cc7, .slice A8 n8 cc8] 24) = we := ⟨_, rfl⟩
          have hce := nine_new x8 (.slice A1 n1 cc1) (.slice A2 n2 cc2) (.slice A3 n3 cc3) (.slice A4 n4 cc4) (.slice A5 n5 cc5) (.slice none 0 0) (.slice A6 n6 cc6) (.slice A7 n7 cc7) (.slice A8 n8 cc8) 24
          have hF9 : Fresh x8 (x8.alloc (.cells #[.slice A1 n1 cc1, .slice A2 n2 cc2, .slice A3 n3 cc3, .slice A4 n4 cc4, .slice A5 n5 cc5, .slice none 0 0, .slice A6 n6 cc6, .slice A7 n7 cc7, .slice A8 n8 cc8] 24)) := (Kept.refl _ _).alloc _
          rw [hwe] at hF9 hce ⊢
          have hg8 := hF9
          have hg7 := HGG8.out.fresh hg8
          have hg6 := HGG7.out.fresh hg7
          have hg5 := HGG6.out.fresh hg6
          have hg4 := HGG5.out.fresh hg5
          have hg3 := HGG4.out.fresh hg4
          have hg2 := HGG3.out.fresh hg3
          have hg1 := HGG2.out.fresh hg2
          have hg0 := HGG1.out.fresh hg1
          have HBE := Go.Lib.hid (HB2.out.fresh (hG0.fresh hg0))
          have HFE := Go.Lib.hid ((HFD.out.fresh hG0).fresh hg0)
          have htx : ∀ j (h : j < 9), Bts we ([.slice A1 n1 cc1, .slice A2 n2 cc2, .slice A3 n3 cc3, .slice A4 n4 cc4, .slice A5 n5 cc5, .slice none 0 0, .slice A6 n6 cc6, .slice A7 n7 cc7, .slice A8 n8 cc8][j]'h) (x.tl j) := by
            intro j h
            match j, h with
            | 0, _ => exact HRR1.out.fresh hg1
            | 1, _ => exact HRR2.out.fresh hg2
            | 2, _ => exact HRR3.out.fresh hg3
            | 3, _ => exact HRR4.out.fresh hg4
            | 4, _ => exact HRR5.out.fresh hg5
            | 5, _ => exact (RowK.nil (E := 5) 0 we).bts
            | 6, _ => exact HRR6.out.fresh hg6
            | 7, _ => exact HRR7.out.fresh hg7
            | 8, _ => exact HRR8.out.fresh hg8
            | j + 9, h => omega
          have HCE := Go.Lib.hid hce
          have HTX := Go.Lib.hid htx
          generalize x8.heap.size = bk at *
          clear hwe hF9 hce htx hg0 HGG1 HRR1 hg1 HGG2 HRR2 hg2 HGG3 HRR3 hg3 HGG4 HRR4 hg4 HGG5 HRR5 hg5 HGG6 HRR6 hg6 HGG7 HRR7 hg7 HGG8 HRR8 hg8 hx9 hG0
          go_wp2_with (fail)
          go_loopw [124] (fun i wr => ∃ j : Nat, j ≤ 9 ∧ i = .int .i64 (j : Int) ∧ Fresh we wr) (fun i _ => 9 - (intOf i).toNat)
          case atStart => exact ⟨0, by omega, rfl, Kept.refl _ _⟩
          case round =>
            obtain ⟨j, hj, rfl, hFr⟩ := hrel
            by_cases hlt : j < 9
            · have hcj := hFr.held (HCE.out j hlt) (fun h => h)
              have htj := (HTX.out j hlt).fresh hFr
              obtain ⟨Aj, cj, hvj, _⟩ := htj.slice
              rw [hvj] at hcj htj
              have HTJ := Go.Lib.hid htj
              clear hvj htj
              have hmj := HT.out.len j hlt
              have hsm := HT.out.small j hlt
              have hlo := HT.out.low j hlt
              have hhi := HT.out.high j hlt
              have htxt := HT.out.text j hlt
              have hp := numAt_lt HT.out.byte (36 + 4 * j) 2
              have HBW := Go.Lib.hid (HBE.out.fresh hFr)
              have C1 : ∀ q, Calls Try.prog 50 #[.slice (some ⟨b, ob + (36 + 4 * j), none⟩) 2 (c - (36 + 4 * j))] (wr.drewN q) fun e w' => e = .returned (.int .u64 (numAt T (36 + 4 * j) 2 : Int)) ∧ w' = wr.drewN q := fun q => numAt_any (HBW.out.fresh ((Kept.refl _ _).drewN _)) HT.out.byte (36 + 4 * j) 2 (by omega) (by omega)
              have C2 : ∀ q, Calls Try.prog 50 #[.slice (some ⟨b, ob + (38 + 4 * j), none⟩) 2 (c - (38 + 4 * j))] (wr.drewN q) fun e w' => e = .returned (.int .u64 (numAt T (38 + 4 * j) 2 : Int)) ∧ w' = wr.drewN q := fun q => numAt_any (HBW.out.fresh ((Kept.refl _ _).drewN _)) HT.out.byte (38 + 4 * j) 2 (by omega) (by omega)
              generalize numAt T (36 + 4 * j) 2 = p at *
              generalize numAt T (38 + 4 * j) 2 = m at *
              obtain ⟨l, hl⟩ : ∃ l, x.tl j = l := ⟨_, rfl⟩
              rw [hl] at hcj hmj hsm hhi htxt HTJ
              obtain ⟨k, hk⟩ : ∃ k, l.length = k := ⟨_, rfl⟩
              rw [hk] at hcj hmj hsm hhi htxt HTJ
              have HC1 := Go.Lib.hid C1
              have HC2 := Go.Lib.hid C2
              have HL := Go.Lib.hid hl
              have HK := Go.Lib.hid hk
              have HTXT := Go.Lib.hid htxt
              have HLO := Go.Lib.hid hlo
              have HHI := Go.Lib.hid hhi
              have i1 : ((j : Nat) : Int) < 9 := by omega
              have i2 : (40 : Int) + 4 * (j : Int) ≤ (n : Int) := by omega
              have hpi : (p : Int) < 65536 := by omega
              have hki : (k : Int) ≤ 120 := by omega
              have hmi : (m : Int) ≤ 60 := by omega
              have HMK : Go.RowKit.Hid (2 * (m : Int) = (k : Int)) := Go.Lib.hid (by omega)
              clear C1 C2 hl hk htxt hlo hhi hmj hsm hp
              have ha1 : 38 + 4 * j - (36 + 4 * j) = 2 := by omega
              have ha2 : 40 + 4 * j - (38 + 4 * j) = 2 := by omega
              go_upto_region 21 with (fail)
              go_quiet ((first | (go_at_call 50; with_reducible exact Calls.quiet_of_same (HC1.out _)) | (go_at_call 50; with_reducible exact Calls.quiet_of_same (HC2.out _))))
              rw [HMK.out]
              have HFQ := Go.Lib.hid (hFr.drewN nq)
              have HWQ := Go.Lib.hid ((Kept.refl wr (fun _ => False)).drewN nq)
              generalize wr.drewN nq = wq at *
              clear hcj ha1 ha2 HC1 HC2 HMK hmi hFr
              by_cases h5 : j = 5
              · have hk0 : (k : Int) = 0 := by
                  rw [← HK.out, ← HL.out, h5]
                  rfl
                have h5i : (j : Int) = 5 := by omega
                have HK0 := Go.Lib.hid hk0
                rw [hk0]
                clear hk0
                go_wp2
                go_roundw
                case rel => exact ⟨j + 1, by omega, by go_num, HFQ.out⟩
                case measure => simp [intOf]; omega
              · have h5i : ¬ (j : Int) = 5 := by omega
                have hjb : ((j : Int) == 5) = false := by simpa using h5i
                have hlo := HLO.out h5
                have hhi := HHI.out h5
                have htx := HTXT.out h5
                have H5 := Go.Lib.hid h5
                have hnT := HLE.out
                clear h5 h5i
                by_cases hk0 : 0 < k
                · have hkt : decide (0 < k) = true := by simpa using hk0
                  have S2 : ∀ q, (convert 24 9 (.slice Aj k cj)).run Try.prog (wq.drewN q) = .ok (.string (strOf l)) (wq.drewN q) := fun q => by
                    exact str_of (((HTJ.out).fresh (HWQ.out)).fresh ((Kept.refl _ _).drewN q)) (by rw [← HL.out]; exact tl_lt x j)
                  have S1 : ∀ q, (convert 24 9 (.slice (some ⟨b, ob + p, none⟩) k (c - p))).run Try.prog (wq.drewN q) = .ok (.string (strOf l)) (wq.drewN q) := fun q => by
                    have h := sub_bts ((HBE.out.fresh HFQ.out).fresh ((Kept.refl _ (fun _ => False)).drewN q)) p k (by omega)
                    rw [htx] at h
                    exact str_of h (by rw [← HL.out]; exact tl_lt x j)
                  have hpk : p + k - p = k := by omega
                  have i3 : (94 : Int) ≤ (p : Int) := by omega
                  have i4 : (p : Int) + (k : Int) ≤ (n : Int) := by omega
                  have i5 : ¬ (p : Int) < 94 := by omega
                  have i6 : ¬ (n : Int) < (p : Int) + (k : Int) := by omega
                  have i7 : (0 : Int) ≤ (p : Int) + (k : Int) := by omega
                  have i8 : ((p : Int) + (k : Int)).toNat = p + k := by omega
                  have i9 : (p : Int) ≤ (p : Int) + (k : Int) := by omega
                  have hws : IntKind.i64.wrap ((p : Int) + (k : Int)) = (p : Int) + (k : Int) := IntWalk.i64_in _ (by omega)
                  clear htx hnT hlo hhi
                  go_upto_region 25 with (fail)
                  go_quiet (fail)
                  go_wp2
                  clear hws i8 hpk S1 S2
                  exact ⟨⟨j + 1, by omega, by go_num, HFQ.out.drewN _⟩, by simp [intOf]; omega⟩
                · have hkf : decide (0 < k) = false := by simpa using hk0
                  clear htx hnT hlo hhi
                  go_upto_region 25 with (fail)
                  go_quiet (fail)
                  go_wp2
                  go_roundw
                  case rel => exact ⟨j + 1, by omega, by go_num, HFQ.out.drewN _⟩
                  case measure => simp [intOf]; omega
            · obtain rfl : j = 9 := by omega
              have HFR := Go.Lib.hid (HFE.out.fresh hFr)
              clear hFr
              go_wp2
              go_ret
              exact ⟨rfl, HFR.out⟩
end Go.Proofs.Ytahcaoenddapoaa
