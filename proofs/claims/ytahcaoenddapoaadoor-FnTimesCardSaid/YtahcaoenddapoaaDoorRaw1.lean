/- spec.raw, at the kinds of dates and times. (Printed by genraw.py.) -/
import Derived.Test.YtahcaoenddapoaaDoorSp
namespace Go.Proofs.YtahcaoenddapoaaDoor
open Go.RowKit

theorem unit_at (s : Nat) (u : Int) (hu : uni s = u) (hs : s ≤ 7) (w : World) : Calls Tryd.prog 17 #[.int .i64 (s : Int)] w fun e w' => e = .returned (.int .i64 u) ∧ w' = w := by
  subst hu
  exact unit_any s hs w

def colObj (k sz s : Int) : Obj := .cells #[.int .i64 0, .int .i64 k, .int .i64 sz, .int .i64 0, .int .i64 s, .string ⟨#[]⟩] 27
def cellObj (d N o : Int) : Obj := .cells #[.bool false, .int .i64 0, .float .f64 0, .string ⟨#[]⟩, .slice none 0 0, .string ⟨#[]⟩, .int .i64 d, .int .i64 N, .int .i64 o] 25

/-- The boxed column and value, and the writer. -/
structure RawAt (w : World) (c p : Nat) (v : Value) (l : List Nat) (base : Nat) (s d N o : Int) : Prop where
  sc : w.cell? ⟨c, 4, none⟩ = some (.int .i64 s)
  cd : w.cell? ⟨c + 1, 6, none⟩ = some (.int .i64 d)
  cn : w.cell? ⟨c + 1, 7, none⟩ = some (.int .i64 N)
  co : w.cell? ⟨c + 1, 8, none⟩ = some (.int .i64 o)
  wr : Wr w base p v l
  hp : c + 1 < p
  hb : c + 1 < base
  hpb : base ≤ p

theorem RawAt.drew {w : World} {c p : Nat} {v : Value} {l : List Nat} {base : Nat} {s d N o : Int} (h : RawAt w c p v l base s d N o) : RawAt w.drew c p v l base s d N o :=
  ⟨h.sc, h.cd, h.cn, h.co, h.wr.fresh (Kept.refl w _).drew, h.hp, h.hb, h.hpb⟩
theorem RawAt.drewN {w : World} {c p : Nat} {v : Value} {l : List Nat} {base : Nat} {s d N o : Int} (h : RawAt w c p v l base s d N o) (n : Nat) : RawAt (w.drewN n) c p v l base s d N o :=
  ⟨h.sc, h.cd, h.cn, h.co, h.wr.fresh ((Kept.refl w _).drewN n), h.hp, h.hb, h.hpb⟩

/-- Behind a put. -/
theorem RawAt.put {w w' : World} {c p : Nat} {v v' : Value} {l l' : List Nat} {base : Nat} {s d N o : Int} (h : RawAt w c p v l base s d N o) (hw : Wr w' base p v' l') (hk : Kept w w' (WrS p v)) : RawAt w' c p v' l' base s d N o := by
  have hv := h.wr.row.block
  have hp := h.hp
  have hb := h.hb
  have n0 : ¬ WrS p v c := fun e => by rcases e with e | e; omega; have := (hv c e).1; omega
  have n1 : ¬ WrS p v (c + 1) := fun e => by rcases e with e | e; omega; have := (hv _ e).1; omega
  exact ⟨hk.held h.sc n0, hk.held h.cd n1, hk.held h.cn n1, hk.held h.co n1, hw, hp, hb, h.hpb⟩

theorem put_raw {X Y : Int} (n k : Nat) (hX : X = (n : Int)) (hY : Y = (k : Int)) (hk : k ≤ 8) {w : World} {c p : Nat} {v : Value} {l : List Nat} {base : Nat} {s d N o : Int} (h : RawAt w c p v l base s d N o) (hl : l.length ≤ 1000) (hb : base ≤ w.heap.size) {w0 : World} (h0 : Kept w0 w (fun k => base ≤ k)) :
    Calls Tryd.prog 43 #[.pointer (some ⟨p, 0, none⟩), .int .u64 X, .int .i64 Y] w fun e w' => e = .returned (.tuple #[]) ∧ ∃ v', RawAt w' c p v' (l ++ leB n k) base s d N o ∧ Kept w0 w' (fun k => base ≤ k) ∧ base ≤ w'.heap.size :=
  (put_at n k hX hY p v l base hk (by omega) w h.wr hb).mono fun e w' ⟨he, v', hw', hK, _⟩ => by
    have hv := h.wr.row.block
    have hpb := h.hpb
    refine ⟨he, v', h.put hw' hK, h0.trans hK (fun j _ e => ?_), Nat.le_trans hb hK.size⟩
    rcases e with e | e
    · omega
    · exact (hv j e).1

/-- The world in which raw begins to put. -/
def rawW (w : World) (k sz s d N o : Int) : World := (((w.alloc (.cells #[.int .i64 0, .int .i64 k, .int .i64 sz, .int .i64 0, .int .i64 s, .string ⟨#[]⟩] 27)).alloc (.cells #[.bool false, .int .i64 0, .float .f64 0, .string ⟨#[]⟩, .slice none 0 0, .string ⟨#[]⟩, .int .i64 d, .int .i64 N, .int .i64 o] 25)).alloc (.cells #[] 5)).alloc (.cells #[.slice (some ⟨w.heap.size + 1 + 1, 0, none⟩) 0 0] 66)

theorem raw_start (w : World) (k sz s d N o : Int) : RawAt (rawW w k sz s d N o) w.heap.size (w.heap.size + 1 + 1 + 1) (.slice (some ⟨w.heap.size + 1 + 1, 0, none⟩) 0 0) [] (w.heap.size + 1 + 1) s d N o ∧ Fresh w (rawW w k sz s d N o) ∧ w.heap.size + 1 + 1 ≤ (rawW w k sz s d N o).heap.size := by
  unfold rawW
  generalize hA : w.alloc (.cells #[.int .i64 0, .int .i64 k, .int .i64 sz, .int .i64 0, .int .i64 s, .string ⟨#[]⟩] 27) = A
  have sA : A.heap.size = w.heap.size + 1 := by rw [← hA]; simp
  have a4 : A.cell? ⟨w.heap.size, 4, none⟩ = some (.int .i64 s) := by rw [← hA]; exact cell_of_row _ _ 4 _ _ _ (heap_alloc_new _ _)
  have FA : Fresh w A := by rw [← hA]; exact (Kept.refl w _).alloc _
  generalize hB : A.alloc (.cells #[.bool false, .int .i64 0, .float .f64 0, .string ⟨#[]⟩, .slice none 0 0, .string ⟨#[]⟩, .int .i64 d, .int .i64 N, .int .i64 o] 25) = B
  have sB : B.heap.size = w.heap.size + 1 + 1 := by rw [← hB]; simp [sA]
  have gB : B.heap[w.heap.size + 1]? = some (.cells #[.bool false, .int .i64 0, .float .f64 0, .string ⟨#[]⟩, .slice none 0 0, .string ⟨#[]⟩, .int .i64 d, .int .i64 N, .int .i64 o] 25) := by rw [← sA, ← hB]; exact heap_alloc_new _ _
  have FB : Fresh A B := by rw [← hB]; exact (Kept.refl A _).alloc _
  have hw := Wr.new B 66
  rw [sB] at hw
  have FC : Fresh B ((B.alloc (.cells #[] 5)).alloc (.cells #[.slice (some ⟨w.heap.size + 1 + 1, 0, none⟩) 0 0] 66)) := ((Kept.refl B _).alloc _).alloc _
  have FBC := FB.fresh FC
  exact ⟨⟨FBC.held (p := ⟨w.heap.size, 4, none⟩) a4 (fun h => h), FC.held (p := ⟨w.heap.size + 1, 6, none⟩) (cell_of_row _ _ 6 _ _ _ gB) (fun h => h), FC.held (p := ⟨w.heap.size + 1, 7, none⟩) (cell_of_row _ _ 7 _ _ _ gB) (fun h => h), FC.held (p := ⟨w.heap.size + 1, 8, none⟩) (cell_of_row _ _ 8 _ _ _ gB) (fun h => h), hw, by omega, by omega, by omega⟩, FA.fresh FBC, by have := FC.size; omega⟩

set_option maxRecDepth 100000 in
set_option maxHeartbeats 400000 in
theorem raw40 (d N o sz s : Int) (dN : Nat) (hd : d = (dN : Int)) (hd1 : d ≤ 3652058) (w : World) : Calls Tryd.prog 26 #[colv 40 sz s, cellv d N o] w fun e w' => ∃ v, e = .returned v ∧ Bts w' v (leB dN 3) ∧ Fresh w w' := by
  have hd0 : 0 ≤ d := by omega
  have HD := Go.Lib.hid hd
  clear hd
  obtain ⟨hR, hF, hsz⟩ := raw_start w 40 sz s d N o
  unfold rawW at hR hF hsz
  have HR := Go.Lib.hid hR
  have HF := Go.Lib.hid (hF.mono (S := fun k => w.heap.size + 1 + 1 ≤ k) (fun _ _ h => h.elim))
  have HSZ := Go.Lib.hid hsz
  clear hR hF hsz
  go_enter Tryd.func26, Tryd.ntmps26
  go_upto_region 47 with (fail)
  generalize ((((w.alloc (.cells #[.int .i64 0, .int .i64 40, .int .i64 sz, .int .i64 0, .int .i64 s, .string ⟨#[]⟩] 27)).alloc (.cells #[.bool false, .int .i64 0, .float .f64 0, .string ⟨#[]⟩, .slice none 0 0, .string ⟨#[]⟩, .int .i64 d, .int .i64 N, .int .i64 o] 25)).alloc (.cells #[] 5)).alloc (.cells #[.slice (some ⟨w.heap.size + 1 + 1, 0, none⟩) 0 0] 66)) = W at *
  have c1 := HR.out.cd
  go_wp2_with (fail)
  refine (put_raw dN 3 HD.out rfl (by decide) HR.out (by decide) HSZ.out HF.out).mono ?_
  rintro e w1 ⟨rfl, v', hR1, hK1, hs1⟩
  have c2 := hR1.wr.cell
  have HR1 := Go.Lib.hid hR1
  have HK1 := Go.Lib.hid hK1
  clear hR1 hK1 c1
  go_wp2
  go_ret
  exact ⟨v', rfl, HR1.out.wr.row.bts, HK1.out.mono (fun k hk e => by omega)⟩

set_option maxRecDepth 100000 in
set_option maxHeartbeats 400000 in
theorem raw41 (d N o sz : Int) (s t : Nat) (hs : s ≤ 7) (hN0 : 0 ≤ N) (hN1 : N < 86400000000000) (ht : N / uni s = (t : Int)) (w : World) : Calls Tryd.prog 26 #[colv 41 sz (s : Int), cellv d N o] w fun e w' => ∃ v, e = .returned v ∧ Bts w' v (leB t (tsz s)) ∧ Fresh w w' := by
  obtain ⟨u, hu⟩ : ∃ u, uni s = u := ⟨_, rfl⟩
  have hu0 : 0 < u := by rw [← hu]; exact uni_pos s
  have hub : u ≤ 1000000000 := by rw [← hu]; exact uni_bound s
  rw [hu] at ht
  have hune : u ≠ 0 := by omega
  have hq1 : N / u = (t : Int) := ht
  have hq2 : N.tdiv u = (t : Int) := by rw [Int.tdiv_eq_ediv_of_nonneg hN0]; exact ht
  have ht0 : (0 : Int) ≤ (t : Int) := Int.natCast_nonneg _
  have ht1 : (t : Int) ≤ 86400000000000 := by rw [← ht]; exact Int.le_trans (Int.ediv_le_self _ hN0) (by omega)
  have ht8 : tsz s ≤ 8 := by unfold tsz; split <;> (try split) <;> decide
  obtain ⟨T, hT⟩ : ∃ T : Int, T = (t : Int) := ⟨_, rfl⟩
  rw [← hT] at hq1 hq2 ht0 ht1
  have hw1 : IntKind.i64.wrap T = T := IntWalk.i64_in _ (by omega)
  have hw2 : IntKind.u64.wrap T = T := by rw [IntKind.wrap_u64]; omega
  have HU := Go.Lib.hid hu
  have HT := Go.Lib.hid hT
  clear ht hu hT
  obtain ⟨hR, hF, hsz⟩ := raw_start w 41 sz (s : Int) d N o
  unfold rawW at hR hF hsz
  have HR := Go.Lib.hid hR
  have HF := Go.Lib.hid (hF.mono (S := fun k => w.heap.size + 1 + 1 ≤ k) (fun _ _ h => h.elim))
  have HSZ := Go.Lib.hid hsz
  clear hR hF hsz
  go_enter Tryd.func26, Tryd.ntmps26
  go_upto_region 49 with (fail)
  generalize ((((w.alloc (.cells #[.int .i64 0, .int .i64 41, .int .i64 sz, .int .i64 0, .int .i64 (s : Int), .string ⟨#[]⟩] 27)).alloc (.cells #[.bool false, .int .i64 0, .float .f64 0, .string ⟨#[]⟩, .slice none 0 0, .string ⟨#[]⟩, .int .i64 d, .int .i64 N, .int .i64 o] 25)).alloc (.cells #[] 5)).alloc (.cells #[.slice (some ⟨w.heap.size + 1 + 1, 0, none⟩) 0 0] 66)) = W at *
  go_region_held3 (fun w' => w'.cell? ⟨w.heap.size, 4, none⟩ = some (.int .i64 (s : Int)) ∧ w'.cell? ⟨w.heap.size + 1, 7, none⟩ = some (.int .i64 N))
    (first | exact ⟨HR.out.sc, HR.out.cn⟩ | assumption | exact ⟨hR1.sc, hR1.cn⟩)
    (first
      | (go_at_call 17; refine (unit_at s u HU.out hs _).mono ?_; rintro e w' ⟨rfl, rfl⟩)
      | (go_at_call 12; refine (clock_any s hs _).mono ?_; rintro e w' ⟨rfl, rfl⟩)
      | (go_at_call 43; refine (put_raw t (tsz s) HT.out rfl ht8 HR.out.drew (by decide) HSZ.out HF.out.drew).mono ?_; rintro e w' ⟨rfl, v1, hR1, hK1, hs1⟩))
  rename_i hA
  clear hA
  have c9 := hR1.wr.cell
  have HR1 := Go.Lib.hid hR1
  have HK1 := Go.Lib.hid hK1
  clear hR1 hK1 hw1 hw2 hq1 hq2
  go_wp2
  go_ret
  exact ⟨v1, rfl, HR1.out.wr.row.bts, HK1.out.mono (fun k hk e => by omega)⟩
end Go.Proofs.YtahcaoenddapoaaDoor
