/- laws.FnTimes: whatever the input: true. (Printed by genlaw.py.) -/
import Derived.Test.YtahcaoenddapoaaDoorCols
import Derived.OrdersHeld
namespace Go.Proofs.YtahcaoenddapoaaDoor
open Go.RowKit

theorem wpAnyH_strong {P : Program} {md : Region.Mode} {ops : Array Oper} {Q : Exit → Act → World → Prop} {S S' : World → Prop} (h : ∀ w, S' w → S w) : ∀ (fuel : Nat) (listed : Array Bool) (a : Act) (w : World), wpAnyH P md ops Q S' fuel listed a w → wpAnyH P md ops Q S fuel listed a w
  | 0, _, _, _, hw => hw
  | n + 1, _, _, _, hw => ⟨hw.1, fun i hi => wpOp_mono (fun a' w' h' => ⟨h _ h'.1, wpAnyH_strong h n _ a' w' h'.2⟩) (hw.2 i hi)⟩

/-- A column in block b; a value in block b. -/
structure Col (w : World) (b : Nat) (k sz s : Int) : Prop where
  c0 : w.cell? ⟨b, 0, none⟩ = some (.int .i64 0)
  c1 : w.cell? ⟨b, 1, none⟩ = some (.int .i64 k)
  c2 : w.cell? ⟨b, 2, none⟩ = some (.int .i64 sz)
  c3 : w.cell? ⟨b, 3, none⟩ = some (.int .i64 0)
  c4 : w.cell? ⟨b, 4, none⟩ = some (.int .i64 s)
  c5 : w.cell? ⟨b, 5, none⟩ = some (.string ⟨#[]⟩)
structure Cel (w : World) (b : Nat) (d N o : Int) : Prop where
  c0 : w.cell? ⟨b, 0, none⟩ = some (.bool false)
  c1 : w.cell? ⟨b, 1, none⟩ = some (.int .i64 0)
  c2 : w.cell? ⟨b, 2, none⟩ = some (.float .f64 0)
  c3 : w.cell? ⟨b, 3, none⟩ = some (.string ⟨#[]⟩)
  c4 : w.cell? ⟨b, 4, none⟩ = some (.slice none 0 0)
  c5 : w.cell? ⟨b, 5, none⟩ = some (.string ⟨#[]⟩)
  c6 : w.cell? ⟨b, 6, none⟩ = some (.int .i64 d)
  c7 : w.cell? ⟨b, 7, none⟩ = some (.int .i64 N)
  c8 : w.cell? ⟨b, 8, none⟩ = some (.int .i64 o)

theorem Col.new (w : World) (k sz s : Int) : Col (w.alloc (.cells #[.int .i64 0, .int .i64 k, .int .i64 sz, .int .i64 0, .int .i64 s, .string ⟨#[]⟩] 27)) w.heap.size k sz s :=
  have h := heap_alloc_new w (.cells #[.int .i64 0, .int .i64 k, .int .i64 sz, .int .i64 0, .int .i64 s, .string ⟨#[]⟩] 27)
  ⟨cell_of_row _ _ 0 _ _ _ h, cell_of_row _ _ 1 _ _ _ h, cell_of_row _ _ 2 _ _ _ h, cell_of_row _ _ 3 _ _ _ h, cell_of_row _ _ 4 _ _ _ h, cell_of_row _ _ 5 _ _ _ h⟩
theorem Cel.new (w : World) (d N o : Int) : Cel (w.alloc (.cells #[.bool false, .int .i64 0, .float .f64 0, .string ⟨#[]⟩, .slice none 0 0, .string ⟨#[]⟩, .int .i64 d, .int .i64 N, .int .i64 o] 25)) w.heap.size d N o :=
  have h := heap_alloc_new w (.cells #[.bool false, .int .i64 0, .float .f64 0, .string ⟨#[]⟩, .slice none 0 0, .string ⟨#[]⟩, .int .i64 d, .int .i64 N, .int .i64 o] 25)
  ⟨cell_of_row _ _ 0 _ _ _ h, cell_of_row _ _ 1 _ _ _ h, cell_of_row _ _ 2 _ _ _ h, cell_of_row _ _ 3 _ _ _ h, cell_of_row _ _ 4 _ _ _ h, cell_of_row _ _ 5 _ _ _ h, cell_of_row _ _ 6 _ _ _ h, cell_of_row _ _ 7 _ _ _ h, cell_of_row _ _ 8 _ _ _ h⟩
theorem Col.fresh {w w' : World} {b : Nat} {k sz s : Int} (h : Col w b k sz s) (hk : Fresh w w') : Col w' b k sz s :=
  ⟨hk.held h.c0 (fun h => h), hk.held h.c1 (fun h => h), hk.held h.c2 (fun h => h), hk.held h.c3 (fun h => h), hk.held h.c4 (fun h => h), hk.held h.c5 (fun h => h)⟩
theorem Cel.fresh {w w' : World} {b : Nat} {d N o : Int} (h : Cel w b d N o) (hk : Fresh w w') : Cel w' b d N o :=
  ⟨hk.held h.c0 (fun h => h), hk.held h.c1 (fun h => h), hk.held h.c2 (fun h => h), hk.held h.c3 (fun h => h), hk.held h.c4 (fun h => h), hk.held h.c5 (fun h => h), hk.held h.c6 (fun h => h), hk.held h.c7 (fun h => h), hk.held h.c8 (fun h => h)⟩

/-- What is held of the world all through the last statement. -/
structure SS (w0 : World) (bv b0 : Nat) (z s d N o : Int) (w : World) : Prop where
  v : Cel w bv d N o
  k0 : Col w b0 40 3 0
  k1 : Col w (b0 + 1) 41 z s
  k2 : Col w (b0 + 1 + 1) 42 (z + 3) s
  k3 : Col w (b0 + 1 + 1 + 1) 43 (z + 5) s
  fr : Fresh w0 w
  pw : Pw w
theorem SS.fresh {w0 w w' : World} {bv b0 : Nat} {z s d N o : Int} (h : SS w0 bv b0 z s d N o w) (hk : Fresh w w') : SS w0 bv b0 z s d N o w' :=
  ⟨h.v.fresh hk, h.k0.fresh hk, h.k1.fresh hk, h.k2.fresh hk, h.k3.fresh hk, h.fr.fresh hk, h.pw.fresh hk⟩

/-- .. and bytes that have been made. -/
structure And2 (S : World → Prop) (v : Value) (l : List Nat) (w : World) : Prop where
  s : S w
  b : Bts w v l
theorem And2.fresh {S : World → Prop} (hS : ∀ w w', S w → Fresh w w' → S w') {v : Value} {l : List Nat} : ∀ w w', And2 S v l w → Fresh w w' → And2 S v l w' := fun _ _ h hk => ⟨hS _ _ h.s hk, h.b.fresh hk⟩

theorem strings_same {l : List Nat} {v : Value} {w : World} (h : Bts w v l) (hl : ∀ b ∈ l, b < 256) : (convert 23 9 v).run Tryd.prog w = .ok (.string (strOf l)) w := str_of h hl

theorem cols_new (w : World) (z s : Int) : ∃ W, W = ((((w.alloc (.cells #[.int .i64 0, .int .i64 40, .int .i64 3, .int .i64 0, .int .i64 0, .string ⟨#[]⟩] 27)).alloc (.cells #[.int .i64 0, .int .i64 41, .int .i64 z, .int .i64 0, .int .i64 s, .string ⟨#[]⟩] 27)).alloc (.cells #[.int .i64 0, .int .i64 42, .int .i64 (z + 3), .int .i64 0, .int .i64 s, .string ⟨#[]⟩] 27)).alloc (.cells #[.int .i64 0, .int .i64 43, .int .i64 (z + 5), .int .i64 0, .int .i64 s, .string ⟨#[]⟩] 27)) ∧
    Col W w.heap.size 40 3 0 ∧ Col W (w.heap.size + 1) 41 z s ∧ Col W (w.heap.size + 1 + 1) 42 (z + 3) s ∧ Col W (w.heap.size + 1 + 1 + 1) 43 (z + 5) s ∧ Fresh w W := by
  refine ⟨_, rfl, ?_⟩
  generalize hA : w.alloc (.cells #[.int .i64 0, .int .i64 40, .int .i64 3, .int .i64 0, .int .i64 0, .string ⟨#[]⟩] 27) = A
  have a : Col A w.heap.size 40 3 0 := by rw [← hA]; exact Col.new _ _ _ _
  have sA : A.heap.size = w.heap.size + 1 := by rw [← hA]; simp
  have fA : Fresh w A := by rw [← hA]; exact (Kept.refl _ _).alloc _
  generalize hB : A.alloc (.cells #[.int .i64 0, .int .i64 41, .int .i64 z, .int .i64 0, .int .i64 s, .string ⟨#[]⟩] 27) = B
  have b : Col B (w.heap.size + 1) 41 z s := by rw [← sA, ← hB]; exact Col.new _ _ _ _
  have sB : B.heap.size = w.heap.size + 1 + 1 := by rw [← hB]; simp [sA]
  have fB : Fresh A B := by rw [← hB]; exact (Kept.refl _ _).alloc _
  generalize hC : B.alloc (.cells #[.int .i64 0, .int .i64 42, .int .i64 (z + 3), .int .i64 0, .int .i64 s, .string ⟨#[]⟩] 27) = C
  have c : Col C (w.heap.size + 1 + 1) 42 (z + 3) s := by rw [← sB, ← hC]; exact Col.new _ _ _ _
  have sC : C.heap.size = w.heap.size + 1 + 1 + 1 := by rw [← hC]; simp [sB]
  have fC : Fresh B C := by rw [← hC]; exact (Kept.refl _ _).alloc _
  generalize hD : C.alloc (.cells #[.int .i64 0, .int .i64 43, .int .i64 (z + 5), .int .i64 0, .int .i64 s, .string ⟨#[]⟩] 27) = D
  have e : Col D (w.heap.size + 1 + 1 + 1) 43 (z + 5) s := by rw [← sC, ← hD]; exact Col.new _ _ _ _
  have fD : Fresh C D := by rw [← hD]; exact (Kept.refl _ _).alloc _
  exact ⟨((a.fresh fB).fresh fC).fresh fD, (b.fresh fC).fresh fD, c.fresh fD, e, ((fA.fresh fB).fresh fC).fresh fD⟩

theorem dayB_of {N u : Int} (h : dayB N u = true) : 0 ≤ N ∧ N < 86400000000000 ∧ N % u = 0 := of_decide_eq_true h

theorem nums (dN s : Nat) (N o : Int) (h1 : 1 ≤ (dN : Int)) (h2 : (dN : Int) ≤ 3652057) (hN0 : 0 ≤ N) (hN1 : N < 86400000000000) (ho0 : -840 ≤ o) (ho1 : o ≤ 840) :
    ∃ tN n E E4 dd t4 oo : Nat, N / uni s = (tN : Int) ∧ N % 1000000000 = (n : Int) ∧ n < 1000000000 ∧ (dN : Int) * 86400 + N / 1000000000 = (E : Int) ∧ E / 86400 = dN ∧ (((E % 86400 : Nat) : Int) * 1000000000 + (n : Int)) / uni s = (tN : Int) ∧
      (dN : Int) * 86400 + N / 1000000000 - o * 60 = (E4 : Int) ∧ E4 / 86400 = dd ∧ dd ≤ 3652058 ∧ (((E4 % 86400 : Nat) : Int) * 1000000000 + (n : Int)) / uni s = (t4 : Int) ∧ (oo : Int) = o % 18446744073709551616 ∧
      ((dN : Int) * 86400000000000 + N - o * 60000000000) / 86400000000000 = (dd : Int) ∧ ((dN : Int) * 86400000000000 + N - o * 60000000000) % 86400000000000 / uni s = (t4 : Int) := by
  have hu := uni_pos s
  generalize uni s = u at *
  obtain ⟨n, hn⟩ := Int.eq_ofNat_of_zero_le (show 0 ≤ N % 1000000000 by omega)
  obtain ⟨E, hE⟩ := Int.eq_ofNat_of_zero_le (show 0 ≤ (dN : Int) * 86400 + N / 1000000000 by omega)
  obtain ⟨E4, hE4⟩ := Int.eq_ofNat_of_zero_le (show 0 ≤ (dN : Int) * 86400 + N / 1000000000 - o * 60 by omega)
  obtain ⟨oo, hoo⟩ := Int.eq_ofNat_of_zero_le (show 0 ≤ o % 18446744073709551616 by omega)
  obtain ⟨tN, htN⟩ := Int.eq_ofNat_of_zero_le (show 0 ≤ N / u from Int.ediv_nonneg hN0 (by omega))
  have e1 : ((E % 86400 : Nat) : Int) * 1000000000 + (n : Int) = N := by omega
  obtain ⟨t4, ht4⟩ := Int.eq_ofNat_of_zero_le (show 0 ≤ (((E4 % 86400 : Nat) : Int) * 1000000000 + (n : Int)) / u from Int.ediv_nonneg (by omega) (by omega))
  have e2 : ((dN : Int) * 86400000000000 + N - o * 60000000000) % 86400000000000 = ((E4 % 86400 : Nat) : Int) * 1000000000 + (n : Int) := by omega
  refine ⟨tN, n, E, E4, E4 / 86400, t4, oo, htN, hn, by omega, hE, by omega, by rw [e1]; exact htN, hE4, rfl, by omega, ht4, hoo.symm, by omega, by rw [e2]; exact ht4⟩

set_option maxRecDepth 100000 in
set_option maxHeartbeats 1000000 in
theorem law_bad (d N o s : Int) (hs : s < 0 ∨ 7 < s) (w : World) : Calls Tryd.prog 3 #[.int .i64 d, .int .i64 N, .int .i64 o, .int .i64 s] w fun e w' => e = .returned (.bool true) ∧ Fresh w w' := by
  have hF0 : Fresh w (w.alloc (.cells #[.bool false, .int .i64 0, .float .f64 0, .string ⟨#[]⟩, .slice none 0 0, .string ⟨#[]⟩, .int .i64 d, .int .i64 N, .int .i64 o] 25)) := (Kept.refl w _).alloc _
  have hfl : ∀ (a : Addr) (b : Nat) (m : Mode) (W : World), (store a (.float .f64 b) m).run Tryd.prog W = stored Tryd.prog W a (.float .f64 b) m := fun a b m W => run_store Tryd.prog W a _ m rfl
  have HF0 := Go.Lib.hid hF0
  have HS := Go.Lib.hid hs
  clear hF0 hs
  go_enter Tryd.func3, Tryd.ntmps3
  go_wp2_with (fail)
  refine (columns_bad s HS.out _).mono ?_
  rintro e w1 ⟨rfl, hF1⟩
  have HF1 := Go.Lib.hid (HF0.out.fresh hF1)
  clear hF1
  go_wp2_with (fail)
  refine (works_any _).mono ?_
  rintro e w2 ⟨rfl, hF2⟩
  have hAl : ∀ (o1 o2 o3 o4 : Obj), Fresh w1 ((((w1.alloc o1).alloc o2).alloc o3).alloc o4) := fun _ _ _ _ => ((((Kept.refl w1 _).alloc _).alloc _).alloc _).alloc _
  have HF2 := Go.Lib.hid ((HF1.out.fresh (hAl _ _ _ _)).fresh hF2)
  clear hF2
  go_wp2
  go_ret
  exact ⟨rfl, HF2.out⟩
end Go.Proofs.YtahcaoenddapoaaDoor
