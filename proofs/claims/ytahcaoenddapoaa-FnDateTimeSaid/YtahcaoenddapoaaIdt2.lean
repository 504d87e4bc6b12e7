/- impl.EncodeDateTime, EncodeDateTim4: the closures and the functions. -/
import Derived.Test.YtahcaoenddapoaaIdt
namespace Go.Proofs.Ytahcaoenddapoaa
open Go.RowKit

theorem dmoment0 (d : Nat) (N : Int) (n E : Nat) (hd : d ≤ 3652058) (hN0 : 0 ≤ N) (hN : N < 86400000000000) (hE : (d : Int) * 86400 + N / 1000000000 = (E : Int)) (hn : N % 1000000000 = (n : Int)) (w : World) :
    Calls Try.prog 60 #[.int .i64 (d : Int), .int .i64 N, .int .i64 0] w fun e w' => e = .returned (tv n E (.pointer none)) ∧ Fresh w w' :=
  (moment_any (d : Int) N 0 n E (by omega) (by omega) hN0 hN (by decide) (by decide) (by omega) hn w).mono fun e w' ⟨r, h1, h2, h3, h4⟩ => by
    obtain rfl := h4 rfl
    exact ⟨h1, h3⟩

set_option maxRecDepth 100000 in
theorem edt1_any (d k x tm n E : Nat) (N : Int) (hd : d ≤ 3652058) (hd0 : 639905 ≤ d) (hN0 : 0 ≤ N) (hN1 : N < 86400000000000) (hE : (d : Int) * 86400 + N / 1000000000 = (E : Int)) (hn : N % 1000000000 = (n : Int)) (hEd : E / 86400 = d) (hk : k < 100) (hnk : n = 10000000 * k) (hx : (x : Int) = ((d : Int) - 693595) % 4294967296) (htm : tm = 300 * (E % 86400) + 3 * k) (w : World) (p0 p1 : Nat)
    (c0 : w.cell? ⟨p0, 0, none⟩ = some (.int .i64 (d : Int))) (c1 : w.cell? ⟨p1, 0, none⟩ = some (.int .i64 N)) :
    Calls Try.prog 58 #[.pointer (some ⟨p0, 0, none⟩), .pointer (some ⟨p1, 0, none⟩)] w fun e w' => ∃ b, e = .returned b ∧ Bts w' b (leB x 4 ++ leB tm 4) ∧ Fresh w w' := by
  have HX := Go.Lib.hid hx
  have HT := Go.Lib.hid htm
  have HE := Go.Lib.hid hE
  have HN := Go.Lib.hid hn
  have HED := Go.Lib.hid hEd
  have HNK := Go.Lib.hid hnk
  clear hx htm hE hn hEd hnk
  go_enter Try.func58, Try.ntmps58
  go_wp2_with (fail)
  refine (dmoment0 d N n E hd hN0 hN1 HE.out HN.out _).mono ?_
  rintro e w1 ⟨rfl, hF⟩
  go_wp2_with (fail)
  refine (zzDateTime_any n E k d x tm hk HNK.out HED.out hd hd0 HX.out HT.out _).mono ?_
  rintro e w2 ⟨v, rfl, hb, hF2⟩
  have HB := Go.Lib.hid hb
  have HF := Go.Lib.hid (hF.fresh hF2)
  clear hb hF hF2
  go_wp2
  go_ret
  exact ⟨v, rfl, HB.out, HF.out⟩

set_option maxRecDepth 100000 in
theorem ed41_any (d x mn E : Nat) (N : Int) (hd : d ≤ 3652058) (hN0 : 0 ≤ N) (hN1 : N < 86400000000000) (hE : (d : Int) * 86400 + N / 1000000000 = (E : Int)) (hn : N % 1000000000 = 0) (hE0 : 59926608000 ≤ E) (hE1 : E ≤ 400000000000) (hx : (E - 59926608000) / 86400 = x) (hx1 : x < 65536) (hmn : E % 86400 / 60 = mn) (w : World) (p0 p1 : Nat)
    (c0 : w.cell? ⟨p0, 0, none⟩ = some (.int .i64 (d : Int))) (c1 : w.cell? ⟨p1, 0, none⟩ = some (.int .i64 N)) :
    Calls Try.prog 62 #[.pointer (some ⟨p0, 0, none⟩), .pointer (some ⟨p1, 0, none⟩)] w fun e w' => ∃ b, e = .returned b ∧ Bts w' b (leB x 2 ++ leB mn 2) ∧ Fresh w w' := by
  have HX := Go.Lib.hid hx
  have HM := Go.Lib.hid hmn
  have HE := Go.Lib.hid hE
  have HN := Go.Lib.hid hn
  have HE0 := Go.Lib.hid hE0
  have HE1 := Go.Lib.hid hE1
  clear hx hmn hE hn hE0 hE1
  go_enter Try.func62, Try.ntmps62
  go_wp2_with (fail)
  refine (dmoment0 d N 0 E hd hN0 hN1 HE.out HN.out _).mono ?_
  rintro e w1 ⟨rfl, hF⟩
  have hz : (tv 0 E (.pointer none)) = tv0 E (.pointer none) := rfl
  rw [hz]
  go_wp2_with (fail)
  refine (zzDateTim4_any E x mn HE0.out HX.out hx1 HM.out HE1.out _).mono ?_
  rintro e w2 ⟨v, rfl, hb, hF2⟩
  have HB := Go.Lib.hid hb
  have HF := Go.Lib.hid (hF.fresh hF2)
  clear hb hF hF2
  go_wp2
  go_ret
  exact ⟨v, rfl, HB.out, HF.out⟩

theorem pair_cells (w : World) (a b : Value) (ta tb : TypeId) :
    ((w.alloc (.cells #[a] ta)).alloc (.cells #[b] tb)).cell? ⟨w.heap.size, 0, none⟩ = some a ∧ ((w.alloc (.cells #[a] ta)).alloc (.cells #[b] tb)).cell? ⟨w.heap.size + 1, 0, none⟩ = some b := by
  have h1 : (w.alloc (.cells #[a] ta)).cell? ⟨w.heap.size, 0, none⟩ = some a := cell_of_row _ _ 0 _ _ _ (heap_alloc_new _ _)
  have hF : Fresh (w.alloc (.cells #[a] ta)) ((w.alloc (.cells #[a] ta)).alloc (.cells #[b] tb)) := (Kept.refl _ _).alloc _
  have hs : (w.alloc (.cells #[a] ta)).heap.size = w.heap.size + 1 := by simp
  refine ⟨hF.held h1 (fun h => h), ?_⟩
  rw [← hs]
  exact cell_of_row _ _ 0 _ _ _ (heap_alloc_new _ _)

set_option maxRecDepth 100000 in
theorem EncodeDateTime_any (d k x tm n E : Nat) (N : Int) (hd : d ≤ 3652058) (hd0 : 639905 ≤ d) (hN0 : 0 ≤ N) (hN1 : N < 86400000000000) (hE : (d : Int) * 86400 + N / 1000000000 = (E : Int)) (hn : N % 1000000000 = (n : Int)) (hEd : E / 86400 = d) (hk : k < 100) (hnk : n = 10000000 * k) (hx : (x : Int) = ((d : Int) - 693595) % 4294967296) (htm : tm = 300 * (E % 86400) + 3 * k) (w : World) :
    Calls Try.prog 24 #[.int .i64 (d : Int), .int .i64 N] w fun e w' => ∃ v, e = .returned v ∧ Row w.heap.size w' v (leB x 4 ++ leB tm 4) ∧ Fresh w w' := by
  have hmf : ∀ (fn : Fn) (first cap : Array Value) (w : World), (Instr.makeFunc fn first cap).run Try.prog w = .ok (.func fn first cap) w := fun _ _ _ _ => rfl
  obtain ⟨c1, c2⟩ := pair_cells w (.int .i64 (d : Int)) (.int .i64 N) 3 2
  have hF0 : Fresh w ((w.alloc (.cells #[.int .i64 (d : Int)] 3)).alloc (.cells #[.int .i64 N] 2)) := ((Kept.refl w _).alloc _).alloc _
  have hb : w.heap.size ≤ ((w.alloc (.cells #[.int .i64 (d : Int)] 3)).alloc (.cells #[.int .i64 N] 2)).heap.size := hF0.size
  have HX := Go.Lib.hid hx
  have HT := Go.Lib.hid htm
  have HE := Go.Lib.hid hE
  have HN := Go.Lib.hid hn
  have HED := Go.Lib.hid hEd
  have HNK := Go.Lib.hid hnk
  have HC1 := Go.Lib.hid c1
  have HC2 := Go.Lib.hid c2
  clear hx htm hE hn hEd hnk c1 c2
  go_enter Try.func24, Try.ntmps24
  go_wp2_with (fail)
  refine (dwritten_any 58 _ (leB x 4 ++ leB tm 4) (by rw [List.length_append, leB_length, leB_length]; decide) _ (enter58 _) (fun W hW => edt1_any d k x tm n E N hd hd0 hN0 hN1 HE.out HN.out HED.out hk HNK.out HX.out HT.out W w.heap.size (w.heap.size + 1) (hW.held HC1.out (fun h => h)) (hW.held HC2.out (fun h => h)))).mono ?_
  rintro e w1 ⟨v, rfl, hr, hF⟩
  have HR := Go.Lib.hid (hr.lower hb)
  have HF := Go.Lib.hid (hF0.fresh hF)
  clear hr hF hF0 hb
  go_wp2
  go_ret
  exact ⟨v, rfl, HR.out, HF.out⟩

set_option maxRecDepth 100000 in
theorem EncodeDateTim4_any (d x mn E : Nat) (N : Int) (hd : d ≤ 3652058) (hN0 : 0 ≤ N) (hN1 : N < 86400000000000) (hE : (d : Int) * 86400 + N / 1000000000 = (E : Int)) (hn : N % 1000000000 = 0) (hE0 : 59926608000 ≤ E) (hE1 : E ≤ 400000000000) (hx : (E - 59926608000) / 86400 = x) (hx1 : x < 65536) (hmn : E % 86400 / 60 = mn) (w : World) :
    Calls Try.prog 26 #[.int .i64 (d : Int), .int .i64 N] w fun e w' => ∃ v, e = .returned v ∧ Row w.heap.size w' v (leB x 2 ++ leB mn 2) ∧ Fresh w w' := by
  have hmf : ∀ (fn : Fn) (first cap : Array Value) (w : World), (Instr.makeFunc fn first cap).run Try.prog w = .ok (.func fn first cap) w := fun _ _ _ _ => rfl
  obtain ⟨c1, c2⟩ := pair_cells w (.int .i64 (d : Int)) (.int .i64 N) 3 2
  have hF0 : Fresh w ((w.alloc (.cells #[.int .i64 (d : Int)] 3)).alloc (.cells #[.int .i64 N] 2)) := ((Kept.refl w _).alloc _).alloc _
  have hb : w.heap.size ≤ ((w.alloc (.cells #[.int .i64 (d : Int)] 3)).alloc (.cells #[.int .i64 N] 2)).heap.size := hF0.size
  have HX := Go.Lib.hid hx
  have HM := Go.Lib.hid hmn
  have HE := Go.Lib.hid hE
  have HN := Go.Lib.hid hn
  have HE0 := Go.Lib.hid hE0
  have HE1 := Go.Lib.hid hE1
  have HC1 := Go.Lib.hid c1
  have HC2 := Go.Lib.hid c2
  clear hx hmn hE hn hE0 hE1 c1 c2
  go_enter Try.func26, Try.ntmps26
  go_wp2_with (fail)
  refine (dwritten_any 62 _ (leB x 2 ++ leB mn 2) (by rw [List.length_append, leB_length, leB_length]; decide) _ (enter62 _) (fun W hW => ed41_any d x mn E N hd hN0 hN1 HE.out HN.out HE0.out HE1.out HX.out hx1 HM.out W w.heap.size (w.heap.size + 1) (hW.held HC1.out (fun h => h)) (hW.held HC2.out (fun h => h)))).mono ?_
  rintro e w1 ⟨v, rfl, hr, hF⟩
  have HR := Go.Lib.hid (hr.lower hb)
  have HF := Go.Lib.hid (hF0.fresh hF)
  clear hr hF hF0 hb
  go_wp2
  go_ret
  exact ⟨v, rfl, HR.out, HF.out⟩
end Go.Proofs.Ytahcaoenddapoaa
