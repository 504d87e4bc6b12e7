/- impl.EncodeDate, EncodeTime, EncodeDateTime2, EncodeDateTimeOffset. -/
import Derived.Test.YtahcaoenddapoaaDoorImp
namespace Go.Proofs.YtahcaoenddapoaaDoor
open Go.RowKit

abbrev PS (W w' : World) (p0 p1 p2 : Nat) (x y z : Value) : Prop := w'.cell? ⟨p0, 0, none⟩ = some x ∧ w'.cell? ⟨p1, 0, none⟩ = some y ∧ w'.cell? ⟨p2, 0, none⟩ = some z ∧ Fresh W w'
theorem PS.start {W : World} {p0 p1 p2 : Nat} {x y z : Value} (h : PS W W p0 p1 p2 x y z) : PS W W.drew p0 p1 p2 x y z := ⟨h.1, h.2.1, h.2.2.1, (Kept.refl W _).drew⟩
theorem PS.same {W w1 : World} {p0 p1 p2 : Nat} {x y z : Value} (h : PS W w1 p0 p1 p2 x y z) : PS W w1 p0 p1 p2 x y z := h
theorem PS.fresh {W w1 w2 : World} {p0 p1 p2 : Nat} {x y z : Value} (h : PS W w1 p0 p1 p2 x y z) (hk : Fresh w1 w2) : PS W w2 p0 p1 p2 x y z :=
  ⟨hk.held h.1 (fun h => h), hk.held h.2.1 (fun h => h), hk.held h.2.2.1 (fun h => h), h.2.2.2.fresh hk⟩
abbrev PS4 (W w' : World) (p0 p1 p2 p3 : Nat) (x y z u : Value) : Prop := w'.cell? ⟨p0, 0, none⟩ = some x ∧ w'.cell? ⟨p1, 0, none⟩ = some y ∧ w'.cell? ⟨p2, 0, none⟩ = some z ∧ w'.cell? ⟨p3, 0, none⟩ = some u ∧ Fresh W w'
theorem PS4.start {W : World} {p0 p1 p2 p3 : Nat} {x y z u : Value} (h : PS4 W W p0 p1 p2 p3 x y z u) : PS4 W W.drew p0 p1 p2 p3 x y z u := ⟨h.1, h.2.1, h.2.2.1, h.2.2.2.1, (Kept.refl W _).drew⟩
theorem PS4.same {W w1 : World} {p0 p1 p2 p3 : Nat} {x y z u : Value} (h : PS4 W w1 p0 p1 p2 p3 x y z u) : PS4 W w1 p0 p1 p2 p3 x y z u := h
theorem PS4.fresh {W w1 w2 : World} {p0 p1 p2 p3 : Nat} {x y z u : Value} (h : PS4 W w1 p0 p1 p2 p3 x y z u) (hk : Fresh w1 w2) : PS4 W w2 p0 p1 p2 p3 x y z u :=
  ⟨hk.held h.1 (fun h => h), hk.held h.2.1 (fun h => h), hk.held h.2.2.1 (fun h => h), hk.held h.2.2.2.1 (fun h => h), h.2.2.2.2.fresh hk⟩

set_option maxRecDepth 100000 in
theorem time1_any (s t : Nat) (S N : Int) (hs : s ≤ 7) (hS : S = N / 1000000000) (hN0 : 0 ≤ N) (hN1 : N < 86400000000000) (ht : N / ((10 ^ (9 - s) : Nat) : Int) = (t : Int)) (w : World) (p0 p1 p2 : Nat)
    (c0 : w.cell? ⟨p0, 0, none⟩ = some (.int .i64 S)) (c1 : w.cell? ⟨p1, 0, none⟩ = some (.int .i64 N)) (c2 : w.cell? ⟨p2, 0, none⟩ = some (.int .i64 (s : Int))) (hP : Pw w) :
    Calls Tryd.prog 27 #[.pointer (some ⟨p0, 0, none⟩), .pointer (some ⟨p1, 0, none⟩), .pointer (some ⟨p2, 0, none⟩)] w fun e w' => ∃ b, e = .returned b ∧ Bts w' b (leB t (tsz s)) ∧ Fresh w w' := by
  have hS0 : 0 ≤ S := by omega
  have hS1 : S < 86400 := by omega
  have hall : (S / 3600 * 3600 + S / 60 % 60 * 60 + S % 60) * 1000000000 + N % 1000000000 = N := by omega
  have a1 : S / 3600 ≤ 23 := by omega
  have a0 : 0 ≤ S / 3600 := by omega
  have HT := Go.Lib.hid ht
  have HAll := Go.Lib.hid hall
  have HP := Go.Lib.hid hP
  clear hS ht hall hP
  go_enter Tryd.func27, Tryd.ntmps27
  go_wp2_with (fail)
  refine (zzTime_any s t (S / 3600) (S / 60 % 60) (S % 60) (N % 1000000000) hs a0 a1 (by omega) (by omega) (by omega) (by omega) (by omega) (by omega) (by rw [HAll.out]; exact HT.out) _ HP.out).mono ?_
  rintro e w1 ⟨v, rfl, hb, hF⟩
  have HB := Go.Lib.hid hb
  clear hb
  go_wp2
  go_ret
  exact ⟨v, rfl, HB.out, hF⟩

theorem moment0 (d : Nat) (N : Int) (n E : Nat) (hd : d ≤ 3652058) (hN0 : 0 ≤ N) (hN : N < 86400000000000) (hE : (d : Int) * 86400 + N / 1000000000 = (E : Int)) (hn : N % 1000000000 = (n : Int)) (w : World) :
    Calls Tryd.prog 25 #[.int .i64 (d : Int), .int .i64 N, .int .i64 0] w fun e w' => e = .returned (tv n E (.pointer none)) ∧ Fresh w w' :=
  (moment_any (d : Int) N 0 n E (by omega) (by omega) hN0 hN (by decide) (by decide) (by omega) hn w).mono fun e w' ⟨r, h1, h2, h3, h4⟩ => by
    obtain rfl := h4 rfl
    exact ⟨h1, h3⟩

set_option maxRecDepth 100000 in
theorem dt21_any (d s t n E : Nat) (N : Int) (hd : d ≤ 3652058) (hs : s ≤ 7) (hN0 : 0 ≤ N) (hN1 : N < 86400000000000) (hE : (d : Int) * 86400 + N / 1000000000 = (E : Int)) (hn : N % 1000000000 = (n : Int)) (hEd : E / 86400 = d) (hn9 : n < 1000000000) (ht : (((E % 86400 : Nat) : Int) * 1000000000 + (n : Int)) / ((10 ^ (9 - s) : Nat) : Int) = (t : Int)) (w : World) (p0 p1 p2 : Nat)
    (c0 : w.cell? ⟨p0, 0, none⟩ = some (.int .i64 (d : Int))) (c1 : w.cell? ⟨p1, 0, none⟩ = some (.int .i64 N)) (c2 : w.cell? ⟨p2, 0, none⟩ = some (.int .i64 (s : Int))) (hP : Pw w) :
    Calls Tryd.prog 29 #[.pointer (some ⟨p0, 0, none⟩), .pointer (some ⟨p1, 0, none⟩), .pointer (some ⟨p2, 0, none⟩)] w fun e w' => ∃ b, e = .returned b ∧ Bts w' b (leB t (tsz s) ++ leB d 3) ∧ Fresh w w' := by
  have HT := Go.Lib.hid ht
  have HP := Go.Lib.hid hP
  have HE := Go.Lib.hid hE
  have HN := Go.Lib.hid hn
  have HED := Go.Lib.hid hEd
  have HN9 := Go.Lib.hid hn9
  have HC : PS w w p0 p1 p2 (.int .i64 (d : Int)) (.int .i64 N) (.int .i64 (s : Int)) := ⟨c0, c1, c2, Kept.refl _ _⟩
  have HCC := Go.Lib.hid HC
  clear ht hP hE hn hEd hn9 c0 c1 c2 HC
  go_enter Tryd.func29, Tryd.ntmps29
  go_wp2_with (fail)
  go_region_held3 (fun w' => w'.cell? ⟨p0, 0, none⟩ = some (.int .i64 (d : Int)) ∧ w'.cell? ⟨p1, 0, none⟩ = some (.int .i64 N) ∧ w'.cell? ⟨p2, 0, none⟩ = some (.int .i64 (s : Int)) ∧ Fresh w w')
    (first | exact PS.start HCC.out | exact PS.same (by assumption) | exact PS.fresh (by assumption) (by assumption))
    (first
      | (go_at_call 25; refine (moment0 d N n E hd hN0 hN1 HE.out HN.out _).mono ?_; rintro e w' ⟨rfl, hF⟩)
      | (go_at_call 30; refine (zzDT2_any n E s t HN9.out (by rw [HED.out]; exact hd) hs HT.out _ (HP.out.fresh (((Kept.refl w (fun _ => False)).drew).fresh hF))).mono ?_; rintro e w' ⟨v, rfl, hb, hF2⟩; have HB := Go.Lib.hid hb; clear hb))
  have hb := HB.out
  rw [HED.out] at hb
  have HB2 := Go.Lib.hid hb
  clear hb HB
  go_wp2
  go_ret
  exact ⟨v, rfl, HB2.out, (((Kept.refl w (fun _ => False)).drew).fresh hF).fresh hF2⟩

set_option maxRecDepth 100000 in
theorem dto1_any (d dd s t n E oo : Nat) (N o : Int) (hd : d ≤ 3652058) (hs : s ≤ 7) (hN0 : 0 ≤ N) (hN1 : N < 86400000000000) (ho0 : -840 ≤ o) (ho1 : o ≤ 840) (hoo : (oo : Int) = o % 18446744073709551616) (hE : (d : Int) * 86400 + N / 1000000000 - o * 60 = (E : Int)) (hn : N % 1000000000 = (n : Int)) (hEd : E / 86400 = dd) (hdd : dd ≤ 3652058) (hn9 : n < 1000000000) (ht : (((E % 86400 : Nat) : Int) * 1000000000 + (n : Int)) / ((10 ^ (9 - s) : Nat) : Int) = (t : Int)) (w : World) (p0 p1 p2 p3 : Nat)
    (c0 : w.cell? ⟨p0, 0, none⟩ = some (.int .i64 (d : Int))) (c1 : w.cell? ⟨p1, 0, none⟩ = some (.int .i64 N)) (c2 : w.cell? ⟨p2, 0, none⟩ = some (.int .i64 o)) (c3 : w.cell? ⟨p3, 0, none⟩ = some (.int .i64 (s : Int))) (hP : Pw w) :
    Calls Tryd.prog 31 #[.pointer (some ⟨p0, 0, none⟩), .pointer (some ⟨p1, 0, none⟩), .pointer (some ⟨p2, 0, none⟩), .pointer (some ⟨p3, 0, none⟩)] w fun e w' => ∃ b, e = .returned b ∧ Bts w' b (leB t (tsz s) ++ leB dd 3 ++ leB oo 2) ∧ Fresh w w' := by
  have hd0 : (0 : Int) ≤ (d : Int) := Int.natCast_nonneg _
  have hd1 : (d : Int) ≤ 3652059 := by omega
  have HT := Go.Lib.hid ht
  have HP := Go.Lib.hid hP
  have HE := Go.Lib.hid hE
  have HN := Go.Lib.hid hn
  have HED := Go.Lib.hid hEd
  have HN9 := Go.Lib.hid hn9
  have HOO := Go.Lib.hid hoo
  have HC : PS4 w w p0 p1 p2 p3 (.int .i64 (d : Int)) (.int .i64 N) (.int .i64 o) (.int .i64 (s : Int)) := ⟨c0, c1, c2, c3, Kept.refl _ _⟩
  have HCC := Go.Lib.hid HC
  clear ht hP hE hn hEd hn9 hoo c0 c1 c2 c3 HC
  go_enter Tryd.func31, Tryd.ntmps31
  go_wp2_with (fail)
  go_region_held3 (fun w' => w'.cell? ⟨p0, 0, none⟩ = some (.int .i64 (d : Int)) ∧ w'.cell? ⟨p1, 0, none⟩ = some (.int .i64 N) ∧ w'.cell? ⟨p2, 0, none⟩ = some (.int .i64 o) ∧ w'.cell? ⟨p3, 0, none⟩ = some (.int .i64 (s : Int)) ∧ Fresh w w')
    (first | exact PS4.start HCC.out | exact PS4.same (by assumption) | exact PS4.fresh (by assumption) (by assumption))
    (first
      | (go_at_call 25; refine (moment_any (d : Int) N o n E hd0 hd1 hN0 hN1 ho0 ho1 HE.out HN.out _).mono ?_; rintro e w' ⟨r, rfl, hA, hF, hr⟩)
      | (go_at_call 32; refine (zzDTO_any n E s t oo o r HN9.out (by rw [HED.out]; exact hdd) hs ho0 ho1 HOO.out HT.out _ (HP.out.fresh (((Kept.refl w (fun _ => False)).drew).fresh hF)) hA).mono ?_; rintro e w' ⟨v, rfl, hb, hF2⟩; have HB := Go.Lib.hid hb; clear hb))
  have hb := HB.out
  rw [HED.out] at hb
  have HB2 := Go.Lib.hid hb
  clear hb HB
  go_wp2
  go_ret
  exact ⟨v, rfl, HB2.out, (((Kept.refl w (fun _ => False)).drew).fresh hF).fresh hF2⟩

set_option maxRecDepth 100000 in
theorem EncodeDate_any (d : Nat) (hd : d ≤ 3652058) (w : World) : Calls Tryd.prog 7 #[.int .i64 (d : Int)] w fun e w' => ∃ v, e = .returned v ∧ Row w.heap.size w' v (leB d 3) ∧ Fresh w w' := by
  have hmf : ∀ (fn : Fn) (first cap : Array Value) (w : World), (Instr.makeFunc fn first cap).run Tryd.prog w = .ok (.func fn first cap) w := fun _ _ _ _ => rfl
  have hF0 : Fresh w (w.alloc (.cells #[.int .i64 (d : Int)] 3)) := (Kept.refl w _).alloc _
  have hc0 : (w.alloc (.cells #[.int .i64 (d : Int)] 3)).cell? ⟨w.heap.size, 0, none⟩ = some (.int .i64 (d : Int)) := cell_of_row _ _ 0 _ _ _ (heap_alloc_new _ _)
  have HD := Go.Lib.hid hd
  have HC := Go.Lib.hid hc0
  clear hd hc0
  go_enter Tryd.func7, Tryd.ntmps7
  go_wp2_with (fail)
  refine (written_any 23 _ (leB d 3) (by rw [leB_length]; decide) _ (enter23 _) (fun W hW => date1_any d HD.out W w.heap.size (hW.held HC.out (fun h => h)))).mono ?_
  rintro e w1 ⟨v, rfl, hr, hF⟩
  have HR := Go.Lib.hid (hr.lower (base' := w.heap.size) (by simp))
  clear hr
  go_wp2
  go_ret
  exact ⟨v, rfl, HR.out, hF0.fresh hF⟩

set_option maxRecDepth 100000 in
theorem EncodeTime_any (s t : Nat) (N : Int) (hs : s ≤ 7) (hN0 : 0 ≤ N) (hN1 : N < 86400000000000) (ht : N / ((10 ^ (9 - s) : Nat) : Int) = (t : Int)) (w : World) (hP : Pw w) : Calls Tryd.prog 9 #[.int .i64 N, .int .i64 (s : Int)] w fun e w' => ∃ v, e = .returned v ∧ Row w.heap.size w' v (leB t (tsz s)) ∧ Fresh w w' := by
  have hmf : ∀ (fn : Fn) (first cap : Array Value) (w : World), (Instr.makeFunc fn first cap).run Tryd.prog w = .ok (.func fn first cap) w := fun _ _ _ _ => rfl
  obtain ⟨c1, c2, c3, _, _⟩ := three_cells w (.int .i64 N) (.int .i64 (s : Int)) (.int .i64 (N / 1000000000)) 2 3 2
  have hF0 : Fresh w (((w.alloc (.cells #[.int .i64 N] 2)).alloc (.cells #[.int .i64 (s : Int)] 3)).alloc (.cells #[.int .i64 (N / 1000000000)] 2)) := (((Kept.refl w _).alloc _).alloc _).alloc _
  have hb : w.heap.size ≤ (((w.alloc (.cells #[.int .i64 N] 2)).alloc (.cells #[.int .i64 (s : Int)] 3)).alloc (.cells #[.int .i64 (N / 1000000000)] 2)).heap.size := hF0.size
  have HT := Go.Lib.hid ht
  have HP := Go.Lib.hid hP
  have HC1 := Go.Lib.hid c1
  have HC2 := Go.Lib.hid c2
  have HC3 := Go.Lib.hid c3
  clear ht hP c1 c2 c3
  go_enter Tryd.func9, Tryd.ntmps9
  go_wp2_with (fail)
  refine (written_any 27 _ (leB t (tsz s)) (by rw [leB_length]; unfold tsz; split <;> (try split) <;> decide) _ (enter27 _) (fun W hW => time1_any s t (N / 1000000000) N hs rfl hN0 hN1 HT.out W (w.heap.size + 1 + 1) w.heap.size (w.heap.size + 1) (hW.held HC3.out (fun h => h)) (hW.held HC1.out (fun h => h)) (hW.held HC2.out (fun h => h)) (HP.out.fresh (hF0.fresh hW)))).mono ?_
  rintro e w1 ⟨v, rfl, hr, hF⟩
  have HR := Go.Lib.hid (hr.lower hb)
  have HF := Go.Lib.hid (hF0.fresh hF)
  clear hr hF hF0 hb
  go_wp2
  go_ret
  exact ⟨v, rfl, HR.out, HF.out⟩

set_option maxRecDepth 100000 in
theorem EncodeDT2_any (d s t n E : Nat) (N : Int) (hd : d ≤ 3652058) (hs : s ≤ 7) (hN0 : 0 ≤ N) (hN1 : N < 86400000000000) (hE : (d : Int) * 86400 + N / 1000000000 = (E : Int)) (hn : N % 1000000000 = (n : Int)) (hEd : E / 86400 = d) (hn9 : n < 1000000000) (ht : (((E % 86400 : Nat) : Int) * 1000000000 + (n : Int)) / ((10 ^ (9 - s) : Nat) : Int) = (t : Int)) (w : World) (hP : Pw w) :
    Calls Tryd.prog 10 #[.int .i64 (d : Int), .int .i64 N, .int .i64 (s : Int)] w fun e w' => ∃ v, e = .returned v ∧ Row w.heap.size w' v (leB t (tsz s) ++ leB d 3) ∧ Fresh w w' := by
  have hmf : ∀ (fn : Fn) (first cap : Array Value) (w : World), (Instr.makeFunc fn first cap).run Tryd.prog w = .ok (.func fn first cap) w := fun _ _ _ _ => rfl
  obtain ⟨c1, c2, c3, _, _⟩ := three_cells w (.int .i64 (d : Int)) (.int .i64 N) (.int .i64 (s : Int)) 3 2 3
  have hF0 : Fresh w (((w.alloc (.cells #[.int .i64 (d : Int)] 3)).alloc (.cells #[.int .i64 N] 2)).alloc (.cells #[.int .i64 (s : Int)] 3)) := (((Kept.refl w _).alloc _).alloc _).alloc _
  have hb : w.heap.size ≤ (((w.alloc (.cells #[.int .i64 (d : Int)] 3)).alloc (.cells #[.int .i64 N] 2)).alloc (.cells #[.int .i64 (s : Int)] 3)).heap.size := hF0.size
  have HT := Go.Lib.hid ht
  have HP := Go.Lib.hid hP
  have HE := Go.Lib.hid hE
  have HN := Go.Lib.hid hn
  have HED := Go.Lib.hid hEd
  have HN9 := Go.Lib.hid hn9
  have HC1 := Go.Lib.hid c1
  have HC2 := Go.Lib.hid c2
  have HC3 := Go.Lib.hid c3
  clear ht hP hE hn hEd hn9 c1 c2 c3
  go_enter Tryd.func10, Tryd.ntmps10
  go_wp2_with (fail)
  refine (written_any 29 _ (leB t (tsz s) ++ leB d 3) (by rw [List.length_append, leB_length, leB_length]; unfold tsz; split <;> (try split) <;> decide) _ (enter29 _) (fun W hW => dt21_any d s t n E N hd hs hN0 hN1 HE.out HN.out HED.out HN9.out HT.out W w.heap.size (w.heap.size + 1) (w.heap.size + 1 + 1) (hW.held HC1.out (fun h => h)) (hW.held HC2.out (fun h => h)) (hW.held HC3.out (fun h => h)) (HP.out.fresh (hF0.fresh hW)))).mono ?_
  rintro e w1 ⟨v, rfl, hr, hF⟩
  have HR := Go.Lib.hid (hr.lower hb)
  have HF := Go.Lib.hid (hF0.fresh hF)
  clear hr hF hF0 hb
  go_wp2
  go_ret
  exact ⟨v, rfl, HR.out, HF.out⟩

set_option maxRecDepth 100000 in
theorem EncodeDTO_any (d dd s t n E oo : Nat) (N o : Int) (hd : d ≤ 3652058) (hs : s ≤ 7) (hN0 : 0 ≤ N) (hN1 : N < 86400000000000) (ho0 : -840 ≤ o) (ho1 : o ≤ 840) (hoo : (oo : Int) = o % 18446744073709551616) (hE : (d : Int) * 86400 + N / 1000000000 - o * 60 = (E : Int)) (hn : N % 1000000000 = (n : Int)) (hEd : E / 86400 = dd) (hdd : dd ≤ 3652058) (hn9 : n < 1000000000) (ht : (((E % 86400 : Nat) : Int) * 1000000000 + (n : Int)) / ((10 ^ (9 - s) : Nat) : Int) = (t : Int)) (w : World) (hP : Pw w) :
    Calls Tryd.prog 11 #[.int .i64 (d : Int), .int .i64 N, .int .i64 o, .int .i64 (s : Int)] w fun e w' => ∃ v, e = .returned v ∧ Row w.heap.size w' v (leB t (tsz s) ++ leB dd 3 ++ leB oo 2) ∧ Fresh w w' := by
  have hmf : ∀ (fn : Fn) (first cap : Array Value) (w : World), (Instr.makeFunc fn first cap).run Tryd.prog w = .ok (.func fn first cap) w := fun _ _ _ _ => rfl
  obtain ⟨c1, c2, c3, _, _⟩ := three_cells w (.int .i64 (d : Int)) (.int .i64 N) (.int .i64 o) 3 2 3
  have hF0 : Fresh w (((w.alloc (.cells #[.int .i64 (d : Int)] 3)).alloc (.cells #[.int .i64 N] 2)).alloc (.cells #[.int .i64 o] 3)) := (((Kept.refl w _).alloc _).alloc _).alloc _
  have hs3 : (((w.alloc (.cells #[.int .i64 (d : Int)] 3)).alloc (.cells #[.int .i64 N] 2)).alloc (.cells #[.int .i64 o] 3)).heap.size = w.heap.size + 1 + 1 + 1 := by simp
  have hF1 : Fresh (((w.alloc (.cells #[.int .i64 (d : Int)] 3)).alloc (.cells #[.int .i64 N] 2)).alloc (.cells #[.int .i64 o] 3)) ((((w.alloc (.cells #[.int .i64 (d : Int)] 3)).alloc (.cells #[.int .i64 N] 2)).alloc (.cells #[.int .i64 o] 3)).alloc (.cells #[.int .i64 (s : Int)] 3)) := (Kept.refl _ _).alloc _
  have c4 : ((((w.alloc (.cells #[.int .i64 (d : Int)] 3)).alloc (.cells #[.int .i64 N] 2)).alloc (.cells #[.int .i64 o] 3)).alloc (.cells #[.int .i64 (s : Int)] 3)).cell? ⟨w.heap.size + 1 + 1 + 1, 0, none⟩ = some (.int .i64 (s : Int)) := by rw [← hs3]; exact cell_of_row _ _ 0 _ _ _ (heap_alloc_new _ _)
  have hF2 := hF0.fresh hF1
  have hb := hF2.size
  have HT := Go.Lib.hid ht
  have HP := Go.Lib.hid hP
  have HE := Go.Lib.hid hE
  have HN := Go.Lib.hid hn
  have HED := Go.Lib.hid hEd
  have HN9 := Go.Lib.hid hn9
  have HOO := Go.Lib.hid hoo
  have HC1 := Go.Lib.hid (hF1.held c1 (fun h => h))
  have HC2 := Go.Lib.hid (hF1.held c2 (fun h => h))
  have HC3 := Go.Lib.hid (hF1.held c3 (fun h => h))
  have HC4 := Go.Lib.hid c4
  clear ht hP hE hn hEd hn9 hoo c1 c2 c3 c4 hs3 hF0 hF1
  go_enter Tryd.func11, Tryd.ntmps11
  go_wp2_with (fail)
  refine (written_any 31 _ (leB t (tsz s) ++ leB dd 3 ++ leB oo 2) (by rw [List.length_append, List.length_append, leB_length, leB_length, leB_length]; unfold tsz; split <;> (try split) <;> decide) _ (enter31 _) (fun W hW => dto1_any d dd s t n E oo N o hd hs hN0 hN1 ho0 ho1 HOO.out HE.out HN.out HED.out hdd HN9.out HT.out W w.heap.size (w.heap.size + 1) (w.heap.size + 1 + 1) (w.heap.size + 1 + 1 + 1) (hW.held HC1.out (fun h => h)) (hW.held HC2.out (fun h => h)) (hW.held HC3.out (fun h => h)) (hW.held HC4.out (fun h => h)) (HP.out.fresh (hF2.fresh hW)))).mono ?_
  rintro e w1 ⟨v, rfl, hr, hF⟩
  have HR := Go.Lib.hid (hr.lower hb)
  have HF := Go.Lib.hid (hF2.fresh hF)
  clear hr hF hF2 hb
  go_wp2
  go_ret
  exact ⟨v, rfl, HR.out, HF.out⟩
end Go.Proofs.YtahcaoenddapoaaDoor
