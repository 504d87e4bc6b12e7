/- laws.FnDateTime: what is held through the law; the two sides answer the same bytes. -/
import Derived.Test.YtahcaoenddapoaaDrw
import Derived.Test.YtahcaoenddapoaaBase
import Derived.Test.YtahcaoenddapoaaStp
namespace Go.Proofs.Ytahcaoenddapoaa
open Go.RowKit

/-- A column in block b; a value in block b. -/
structure Col (w : World) (b : Nat) (k sz s : Int) : Prop where
  c0 : w.cell? ⟨b, 0, none⟩ = some (.int .i64 0)
  c1 : w.cell? ⟨b, 1, none⟩ = some (.int .i64 k)
  c2 : w.cell? ⟨b, 2, none⟩ = some (.int .i64 sz)
  c3 : w.cell? ⟨b, 3, none⟩ = some (.int .i64 0)
  c4 : w.cell? ⟨b, 4, none⟩ = some (.int .i64 s)
  c5 : w.cell? ⟨b, 5, none⟩ = some (.string ⟨#[]⟩)
structure Cel (w : World) (b : Nat) (d N o : Int) : Prop where
  c0 : w.cell? ⟨b, 0, none⟩ = some (.bool false)
  c1 : w.cell? ⟨b, 1, none⟩ = some (.int .i64 0)
  c2 : w.cell? ⟨b, 2, none⟩ = some (.float .f64 0)
  c3 : w.cell? ⟨b, 3, none⟩ = some (.string ⟨#[]⟩)
  c4 : w.cell? ⟨b, 4, none⟩ = some (.slice none 0 0)
  c5 : w.cell? ⟨b, 5, none⟩ = some (.string ⟨#[]⟩)
  c6 : w.cell? ⟨b, 6, none⟩ = some (.int .i64 d)
  c7 : w.cell? ⟨b, 7, none⟩ = some (.int .i64 N)
  c8 : w.cell? ⟨b, 8, none⟩ = some (.int .i64 o)

theorem Col.new (w : World) (k sz s : Int) : Col (w.alloc (.cells #[.int .i64 0, .int .i64 k, .int .i64 sz, .int .i64 0, .int .i64 s, .string ⟨#[]⟩] 46)) w.heap.size k sz s :=
  have h := heap_alloc_new w (.cells #[.int .i64 0, .int .i64 k, .int .i64 sz, .int .i64 0, .int .i64 s, .string ⟨#[]⟩] 46)
  ⟨cell_of_row _ _ 0 _ _ _ h, cell_of_row _ _ 1 _ _ _ h, cell_of_row _ _ 2 _ _ _ h, cell_of_row _ _ 3 _ _ _ h, cell_of_row _ _ 4 _ _ _ h, cell_of_row _ _ 5 _ _ _ h⟩
theorem Cel.new (w : World) (d N o : Int) : Cel (w.alloc (.cells #[.bool false, .int .i64 0, .float .f64 0, .string ⟨#[]⟩, .slice none 0 0, .string ⟨#[]⟩, .int .i64 d, .int .i64 N, .int .i64 o] 44)) w.heap.size d N o :=
  have h := heap_alloc_new w (.cells #[.bool false, .int .i64 0, .float .f64 0, .string ⟨#[]⟩, .slice none 0 0, .string ⟨#[]⟩, .int .i64 d, .int .i64 N, .int .i64 o] 44)
  ⟨cell_of_row _ _ 0 _ _ _ h, cell_of_row _ _ 1 _ _ _ h, cell_of_row _ _ 2 _ _ _ h, cell_of_row _ _ 3 _ _ _ h, cell_of_row _ _ 4 _ _ _ h, cell_of_row _ _ 5 _ _ _ h, cell_of_row _ _ 6 _ _ _ h, cell_of_row _ _ 7 _ _ _ h, cell_of_row _ _ 8 _ _ _ h⟩
theorem Col.fresh {w w' : World} {b : Nat} {k sz s : Int} (h : Col w b k sz s) (hk : Fresh w w') : Col w' b k sz s :=
  ⟨hk.held h.c0 (fun h => h), hk.held h.c1 (fun h => h), hk.held h.c2 (fun h => h), hk.held h.c3 (fun h => h), hk.held h.c4 (fun h => h), hk.held h.c5 (fun h => h)⟩
theorem Cel.fresh {w w' : World} {b : Nat} {d N o : Int} (h : Cel w b d N o) (hk : Fresh w w') : Cel w' b d N o :=
  ⟨hk.held h.c0 (fun h => h), hk.held h.c1 (fun h => h), hk.held h.c2 (fun h => h), hk.held h.c3 (fun h => h), hk.held h.c4 (fun h => h), hk.held h.c5 (fun h => h), hk.held h.c6 (fun h => h), hk.held h.c7 (fun h => h), hk.held h.c8 (fun h => h)⟩

/-- What is held of the world all through. -/
structure SS (w0 : World) (b : Nat) (d N : Int) (w : World) : Prop where
  v : Cel w b d N 0
  k0 : Col w (b + 1) 111 8 0
  k1 : Col w (b + 1 + 1) 111 4 0
  fr : Fresh w0 w
theorem SS.fresh {w0 w w' : World} {b : Nat} {d N : Int} (h : SS w0 b d N w) (hk : Fresh w w') : SS w0 b d N w' :=
  ⟨h.v.fresh hk, h.k0.fresh hk, h.k1.fresh hk, h.fr.fresh hk⟩

/-- .. and bytes that have been made. -/
structure And2 (S : World → Prop) (v : Value) (l : List Nat) (w : World) : Prop where
  s : S w
  b : Bts w v l
theorem And2.fresh {S : World → Prop} (hS : ∀ w w', S w → Fresh w w' → S w') {v : Value} {l : List Nat} : ∀ w w', And2 S v l w → Fresh w w' → And2 S v l w' := fun _ _ h hk => ⟨hS _ _ h.s hk, h.b.fresh hk⟩

theorem strings_same {l : List Nat} {v : Value} {w : World} (h : Bts w v l) (hl : ∀ b ∈ l, b < 256) : (convert 24 9 v).run Try.prog w = .ok (.string (strOf l)) w := str_of h hl

theorem dcols_new (w : World) (d N : Int) : ∃ W, W = (((w.alloc (.cells #[.bool false, .int .i64 0, .float .f64 0, .string ⟨#[]⟩, .slice none 0 0, .string ⟨#[]⟩, .int .i64 d, .int .i64 N, .int .i64 0] 44)).alloc (.cells #[.int .i64 0, .int .i64 111, .int .i64 8, .int .i64 0, .int .i64 0, .string ⟨#[]⟩] 46)).alloc (.cells #[.int .i64 0, .int .i64 111, .int .i64 4, .int .i64 0, .int .i64 0, .string ⟨#[]⟩] 46)) ∧
    SS w w.heap.size d N W := by
  refine ⟨_, rfl, ?_⟩
  generalize hA : w.alloc (.cells #[.bool false, .int .i64 0, .float .f64 0, .string ⟨#[]⟩, .slice none 0 0, .string ⟨#[]⟩, .int .i64 d, .int .i64 N, .int .i64 0] 44) = A
  have a : Cel A w.heap.size d N 0 := by rw [← hA]; exact Cel.new _ _ _ _
  have sA : A.heap.size = w.heap.size + 1 := by rw [← hA]; simp
  have fA : Fresh w A := by rw [← hA]; exact (Kept.refl _ _).alloc _
  generalize hB : A.alloc (.cells #[.int .i64 0, .int .i64 111, .int .i64 8, .int .i64 0, .int .i64 0, .string ⟨#[]⟩] 46) = B
  have b : Col B (w.heap.size + 1) 111 8 0 := by rw [← sA, ← hB]; exact Col.new _ _ _ _
  have sB : B.heap.size = w.heap.size + 1 + 1 := by rw [← hB]; simp [sA]
  have fB : Fresh A B := by rw [← hB]; exact (Kept.refl _ _).alloc _
  generalize hC : B.alloc (.cells #[.int .i64 0, .int .i64 111, .int .i64 4, .int .i64 0, .int .i64 0, .string ⟨#[]⟩] 46) = C
  have c : Col C (w.heap.size + 1 + 1) 111 4 0 := by rw [← sB, ← hC]; exact Col.new _ _ _ _
  have fC : Fresh B C := by rw [← hC]; exact (Kept.refl _ _).alloc _
  exact ⟨(a.fresh fB).fresh fC, b.fresh fC, c, (fA.fresh fB).fresh fC⟩

theorem dayB_of {N u : Int} (h : dayB N u = true) : 0 ≤ N ∧ N < 86400000000000 ∧ N % u = 0 := of_decide_eq_true h

theorem mk_bts {f : Nat} {args : Array Value} {W : World} {l : List Nat} (h : Calls Try.prog f args W fun e w' => ∃ v, e = .returned v ∧ Row W.heap.size w' v l ∧ Fresh W w') : (Calls Try.prog f args W fun e w' => ∃ v, e = .returned v ∧ Bts w' v l ∧ Fresh W w') := h.mono fun _ _ ⟨v, h1, h2, h3⟩ => ⟨v, h1, h2.bts, h3⟩

theorem dt8_same (d N : Int) (h1 : 639905 ≤ d) (h2 : d ≤ 3652058) (h3 : dayB N 10000000 = true) : ∃ l : List Nat, (∀ b ∈ l, b < 256) ∧ (∀ W : World, Calls Try.prog 24 #[.int .i64 d, .int .i64 N] W fun e w' => ∃ v, e = .returned v ∧ Bts w' v l ∧ Fresh W w') ∧
    (∀ W : World, Calls Try.prog 25 #[colv 111 8 0, cellv d N 0] W fun e w' => ∃ v, e = .returned v ∧ Bts w' v l ∧ Fresh W w') := by
  obtain ⟨hN0, hN1, hN2⟩ := dayB_of h3
  obtain ⟨dN, hdN⟩ := Int.eq_ofNat_of_zero_le (show 0 ≤ d by omega)
  obtain ⟨n, hn⟩ := Int.eq_ofNat_of_zero_le (show 0 ≤ N % 1000000000 by omega)
  obtain ⟨E, hE⟩ := Int.eq_ofNat_of_zero_le (show 0 ≤ (dN : Int) * 86400 + N / 1000000000 by omega)
  obtain ⟨x, hx⟩ := Int.eq_ofNat_of_zero_le (show 0 ≤ ((dN : Int) - 693595) % 4294967296 by omega)
  obtain ⟨x64, hx64⟩ := Int.eq_ofNat_of_zero_le (show 0 ≤ (d - 693595) % 18446744073709551616 by omega)
  have hk : n / 10000000 < 100 := by omega
  have hnk : n = 10000000 * (n / 10000000) := by omega
  obtain ⟨k, hkk⟩ : ∃ k, k = n / 10000000 := ⟨_, rfl⟩
  rw [← hkk] at hk hnk
  obtain ⟨tm, htm⟩ : ∃ tm, tm = 300 * (E % 86400) + 3 * k := ⟨_, rfl⟩
  have hEd : E / 86400 = dN := by omega
  have hEm : ((E % 86400 : Nat) : Int) = N / 1000000000 := by omega
  have htmI : (N * 300 + 500000000) / 1000000000 = (tm : Int) := by
    have e1 : N = ((E % 86400 : Nat) : Int) * 1000000000 + (n : Int) := by omega
    have e2 : (tm : Int) = 300 * ((E % 86400 : Nat) : Int) + 3 * (k : Int) := by omega
    rw [e1, e2]
    generalize ((E % 86400 : Nat) : Int) = A
    omega
  have hx4 : x64 % 4294967296 = x := by omega
  refine ⟨leB x 4 ++ leB tm 4, fun b hb => by rcases List.mem_append.1 hb with h | h <;> exact leB_lt _ _ b h, fun W => ?_, fun W => ?_⟩
  · rw [hdN]
    exact mk_bts (EncodeDateTime_any dN k x tm n E N (by omega) (by omega) hN0 hN1 hE hn hEd hk hnk hx.symm htm W)
  · refine Raw_any 111 8 0 d N 0 _ (fun w => ?_) W
    have := raw8 d N x64 tm (by omega) h2 hx64.symm hN0 hN1 htmI w
    rw [leB_four x64, hx4] at this
    exact this

theorem dt4_same (d N : Int) (h1 : 693595 ≤ d) (h2 : d < 759131) (h3 : dayB N 60000000000 = true) : ∃ l : List Nat, (∀ b ∈ l, b < 256) ∧ (∀ W : World, Calls Try.prog 26 #[.int .i64 d, .int .i64 N] W fun e w' => ∃ v, e = .returned v ∧ Bts w' v l ∧ Fresh W w') ∧
    (∀ W : World, Calls Try.prog 25 #[colv 111 4 0, cellv d N 0] W fun e w' => ∃ v, e = .returned v ∧ Bts w' v l ∧ Fresh W w') := by
  obtain ⟨hN0, hN1, hN2⟩ := dayB_of h3
  obtain ⟨dN, hdN⟩ := Int.eq_ofNat_of_zero_le (show 0 ≤ d by omega)
  obtain ⟨E, hE⟩ := Int.eq_ofNat_of_zero_le (show 0 ≤ (dN : Int) * 86400 + N / 1000000000 by omega)
  obtain ⟨x, hx⟩ := Int.eq_ofNat_of_zero_le (show 0 ≤ d - 693595 by omega)
  obtain ⟨mn, hmn⟩ := Int.eq_ofNat_of_zero_le (show 0 ≤ N / 60000000000 by omega)
  have hn : N % 1000000000 = 0 := by omega
  have hx1 : (E - 59926608000) / 86400 = x := by omega
  have hm1 : E % 86400 / 60 = mn := by omega
  refine ⟨leB x 2 ++ leB mn 2, fun b hb => by rcases List.mem_append.1 hb with h | h <;> exact leB_lt _ _ b h, fun W => ?_, fun W => ?_⟩
  · rw [hdN]
    exact mk_bts (EncodeDateTim4_any dN x mn E N (by omega) hN0 hN1 hE hn (by omega) (by omega) hx1 (by omega) hm1 W)
  · exact Raw_any 111 4 0 d N 0 _ (fun w => raw4 d N x mn hx (by omega) hN0 hN1 hmn w) W
end Go.Proofs.Ytahcaoenddapoaa
