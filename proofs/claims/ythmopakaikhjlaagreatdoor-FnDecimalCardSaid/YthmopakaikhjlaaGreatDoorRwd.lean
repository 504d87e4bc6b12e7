/- spec.raw and spec.Raw at a decimal. -/
import Derived.Test.YthmopakaikhjlaaGreatDoorWhl
import Derived.Test.YthmopakaikhjlaaGreatDoorWbytes
import Derived.Test.YthmopakaikhjlaaGreatDoorCln
import Derived.Test.YthmopakaikhjlaaGreatDoorUcs
namespace Go.Proofs.YthmopakaikhjlaaGreatDoor
open Go.RowKit

/-- The world in which raw begins to put. -/
def rawW (w : World) (d : ByteArray) (sz p s : Int) : World := (((w.alloc (.cells #[.int .i64 0, .int .i64 106, .int .i64 sz, .int .i64 p, .int .i64 s, .string ⟨#[]⟩] 23)).alloc (.cells #[.bool false, .int .i64 0, .float .f64 0, .string ⟨#[]⟩, .slice none 0 0, .string d, .int .i64 0, .int .i64 0, .int .i64 0] 30)).alloc (.cells #[] 5)).alloc (.cells #[.slice (some ⟨w.heap.size + 1 + 1, 0, none⟩) 0 0] 68)

theorem raw_start (w : World) (d : ByteArray) (sz p s : Int) : Wr (rawW w d sz p s) (w.heap.size + 1 + 1) (w.heap.size + 1 + 1 + 1) (.slice (some ⟨w.heap.size + 1 + 1, 0, none⟩) 0 0) [] ∧ Fresh w (rawW w d sz p s) ∧ w.heap.size + 1 + 1 ≤ (rawW w d sz p s).heap.size := by
  unfold rawW
  have h := Wr.new ((w.alloc (.cells #[.int .i64 0, .int .i64 106, .int .i64 sz, .int .i64 p, .int .i64 s, .string ⟨#[]⟩] 23)).alloc (.cells #[.bool false, .int .i64 0, .float .f64 0, .string ⟨#[]⟩, .slice none 0 0, .string d, .int .i64 0, .int .i64 0, .int .i64 0] 30)) 68
  rw [size_new, size_new] at h
  exact ⟨h, ((((Kept.refl w _).alloc _).alloc _).alloc _).alloc _, by rw [size_new, size_new, size_new, size_new]; omega⟩

theorem Wr.chain {w0 w w' : World} {base p : Nat} {v : Value} {l : List Nat} (h : Wr w base p v l) (hp : base ≤ p) (h0 : Kept w0 w (fun k => base ≤ k)) (hK : Kept w w' (WrS p v)) : Kept w0 w' (fun k => base ≤ k) :=
  h0.trans hK (fun j _ e => by
    rcases e with e | e
    · omega
    · exact (h.row.block j e).1)

theorem whole_at (s u : ByteArray) (ds : List Nat) (N : Nat) (X : Int) (hX : X = (N : Int)) (hu : u = s) (hN : N ≤ 16) (hs : s = strOf (dtx ds)) (hd : ∀ d ∈ ds, d ≤ 9) (hl : ds.length ≤ 100) (w : World) :
    Calls Tryz.prog 39 #[.string u, .int .i64 X] w fun e w' => ∃ v, e = .returned v ∧ Bts w' v (leB (dv ds) N) ∧ Fresh w w' := by
  subst hX
  subst hu
  exact whole_any u ds N hN hs hd hl w

theorem first_of (d : ByteArray) (p : Nat) (neg : Bool) (ds : List Nat) (hp : Prop10 d p neg ds) : ∃ h : 0 < d.size, (d[0].toNat = 45 ↔ neg = true) ∧ (if neg then d.extract 1 d.size else d) = strOf (dtx ds) := by
  have hne := List.length_pos_iff.2 hp.ne
  have heq := hp.eq
  have hle := hp.le
  cases neg with
  | false =>
    replace heq : d = strOf (dtx ds) := by simpa using heq
    have h0 : 0 < d.size := by rw [heq, strOf_size]; simpa using hne
    refine ⟨h0, ?_, by simpa using heq⟩
    subst heq
    rw [strOf_get (dtx ds) 0 h0 (by simpa using hne)]
    have := dtx_in hle _ (List.getElem_mem (by simpa using hne : 0 < (dtx ds).length))
    simp only [Bool.false_eq_true, iff_false]
    omega
  | true =>
    replace heq : d = strOf (45 :: dtx ds) := by simpa using heq
    have h0 : 0 < d.size := by rw [heq, strOf_size]; simp
    refine ⟨h0, ?_, ?_⟩
    · subst heq
      rw [strOf_get (45 :: dtx ds) 0 h0 (by simp)]
      simp
    · rw [if_pos rfl, heq, strOf_extract, strOf_size]
      congr 1
      rw [List.take_length, List.drop_succ_cons, List.drop_zero]


set_option maxRecDepth 100000 in
set_option maxHeartbeats 1000000 in
theorem raw_pos (d : ByteArray) (p M : Nat) (ds : List Nat) (s : Int) (hp : Prop10 d p false ds) (hp38 : p ≤ 38) (hM : mag p = M) (w : World) :
    Calls Tryz.prog 23 #[colv (1 + (M : Int)) (p : Int) s, cellv d] w fun e w' => ∃ v, e = .returned v ∧ Bts w' v (1 :: leB (dv ds) M) ∧ Fresh w w' := by
  have hund : undef = Value.tuple #[] := rfl
  have h3 : M ≤ 16 := by rw [← hM]; unfold mag; split <;> (try split) <;> (try split) <;> decide
  have h3i : (M : Int) ≤ 16 := by omega
  obtain ⟨g2, g3, g5⟩ := first_of d p false ds hp
  have g4 : (d[0].toNat == 45) = false := by simp [g3]
  have g6 : (((d[0].toNat : Nat) : Int) == 45) = false := by have h := beq_iff_eq.symm.trans (by rw [g4] : (d[0].toNat == 45) = true ↔ _); simp at h ⊢; omega
  obtain ⟨hw, hF, hsz⟩ := raw_start w d (1 + (M : Int)) (p : Int) s
  have hfew : ds.length ≤ 100 := by have := hp.few; omega
  have h5 := hp.le
  obtain ⟨W, hW⟩ : ∃ W, rawW w d (1 + (M : Int)) (p : Int) s = W := ⟨_, rfl⟩
  rw [hW] at hw hF hsz
  have HP := Go.Lib.hid (And.intro g5 (And.intro hfew h5))
  have H0 := Go.Lib.hid (And.intro hw (And.intro hF hsz))
  have HW := Go.Lib.hid hW
  clear hp hM hw hF hsz hW g5 hfew h5 g3
  go_enter Tryz.func23, Tryz.ntmps23
  go_wp2_with (fail)
  have hW := HW.out
  unfold rawW at hW
  rw [hW]
  clear hW HW
  obtain ⟨b, hb⟩ : ∃ b, w.heap.size + 1 + 1 = b := ⟨_, rfl⟩
  rw [hb] at H0 ⊢
  have hbw : w.heap.size ≤ b := by omega
  refine (put_at 1 1 rfl rfl (b + 1) _ [] b (by decide) (by decide) W H0.out.1 H0.out.2.2).mono ?_
  rintro e w1 ⟨rfl, v1, hw1, hK1, hM1⟩
  have H1 := Go.Lib.hid (And.intro hw1 (And.intro (H0.out.1.chain (Nat.le_succ b) (H0.out.2.1.mono (S := fun k => b ≤ k) (fun _ _ h => h.elim)) hK1) (Nat.le_trans H0.out.2.2 hK1.size)))
  clear hw1 hK1 hM1 H0
  go_wp2_with (fail)
  refine (whole_at (strOf (dtx ds)) _ ds M _ (by omega) (by simpa using HP.out.1) h3 rfl HP.out.2.2 HP.out.2.1 w1).mono ?_
  rintro e w2 ⟨x, rfl, hx, hF2⟩
  have hw2 := H1.out.1.fresh hF2
  have H2 := Go.Lib.hid (And.intro hw2 (And.intro (H1.out.2.1.fresh hF2) (And.intro (Nat.le_trans H1.out.2.2 hF2.size) hx)))
  clear hw2 hF2 hx H1
  go_wp2_with (fail)
  refine (bytes_any (b + 1) v1 x ([] ++ leB 1 1) (leB (dv ds) M) b (by simp [leB_length]; omega) w2 H2.out.1 H2.out.2.2.2 H2.out.2.2.1).mono ?_
  rintro e w3 ⟨rfl, v3, hw3, hK3, hM3⟩
  have c3 := hw3.cell
  have H3 := Go.Lib.hid (And.intro hw3 (H2.out.1.chain (Nat.le_succ b) H2.out.2.1 hK3))
  clear hw3 hK3 hM3 H2
  go_wp2
  go_ret
  exact ⟨v3, rfl, H3.out.1.row.bts, H3.out.2.mono (fun k hk e => by omega)⟩

set_option maxRecDepth 100000 in
set_option maxHeartbeats 1000000 in
theorem raw_neg (d : ByteArray) (p M : Nat) (ds : List Nat) (s : Int) (hp : Prop10 d p true ds) (hp38 : p ≤ 38) (hM : mag p = M) (w : World) :
    Calls Tryz.prog 23 #[colv (1 + (M : Int)) (p : Int) s, cellv d] w fun e w' => ∃ v, e = .returned v ∧ Bts w' v (0 :: leB (dv ds) M) ∧ Fresh w w' := by
  have hund : undef = Value.tuple #[] := rfl
  have h3 : M ≤ 16 := by rw [← hM]; unfold mag; split <;> (try split) <;> (try split) <;> decide
  have h3i : (M : Int) ≤ 16 := by omega
  obtain ⟨g2, g3, g5⟩ := first_of d p true ds hp
  have g4 : (d[0].toNat == 45) = true := by simp [g3]
  have g6 : (((d[0].toNat : Nat) : Int) == 45) = true := by have h := beq_iff_eq.symm.trans (by rw [g4] : (d[0].toNat == 45) = true ↔ _); simp at h ⊢; omega
  obtain ⟨hw, hF, hsz⟩ := raw_start w d (1 + (M : Int)) (p : Int) s
  have hfew : ds.length ≤ 100 := by have := hp.few; omega
  have h5 := hp.le
  obtain ⟨W, hW⟩ : ∃ W, rawW w d (1 + (M : Int)) (p : Int) s = W := ⟨_, rfl⟩
  rw [hW] at hw hF hsz
  have HP := Go.Lib.hid (And.intro g5 (And.intro hfew h5))
  have H0 := Go.Lib.hid (And.intro hw (And.intro hF hsz))
  have HW := Go.Lib.hid hW
  clear hp hM hw hF hsz hW g5 hfew h5 g3
  go_enter Tryz.func23, Tryz.ntmps23
  go_wp2_with (fail)
  have hW := HW.out
  unfold rawW at hW
  rw [hW]
  clear hW HW
  obtain ⟨b, hb⟩ : ∃ b, w.heap.size + 1 + 1 = b := ⟨_, rfl⟩
  rw [hb] at H0 ⊢
  have hbw : w.heap.size ≤ b := by omega
  refine (put_at 0 1 rfl rfl (b + 1) _ [] b (by decide) (by decide) W H0.out.1 H0.out.2.2).mono ?_
  rintro e w1 ⟨rfl, v1, hw1, hK1, hM1⟩
  have H1 := Go.Lib.hid (And.intro hw1 (And.intro (H0.out.1.chain (Nat.le_succ b) (H0.out.2.1.mono (S := fun k => b ≤ k) (fun _ _ h => h.elim)) hK1) (Nat.le_trans H0.out.2.2 hK1.size)))
  clear hw1 hK1 hM1 H0
  go_wp2_with (fail)
  refine (whole_at (strOf (dtx ds)) _ ds M _ (by omega) (by simpa using HP.out.1) h3 rfl HP.out.2.2 HP.out.2.1 w1).mono ?_
  rintro e w2 ⟨x, rfl, hx, hF2⟩
  have hw2 := H1.out.1.fresh hF2
  have H2 := Go.Lib.hid (And.intro hw2 (And.intro (H1.out.2.1.fresh hF2) (And.intro (Nat.le_trans H1.out.2.2 hF2.size) hx)))
  clear hw2 hF2 hx H1
  go_wp2_with (fail)
  refine (bytes_any (b + 1) v1 x ([] ++ leB 0 1) (leB (dv ds) M) b (by simp [leB_length]; omega) w2 H2.out.1 H2.out.2.2.2 H2.out.2.2.1).mono ?_
  rintro e w3 ⟨rfl, v3, hw3, hK3, hM3⟩
  have c3 := hw3.cell
  have H3 := Go.Lib.hid (And.intro hw3 (H2.out.1.chain (Nat.le_succ b) H2.out.2.1 hK3))
  clear hw3 hK3 hM3 H2
  go_wp2
  go_ret
  exact ⟨v3, rfl, H3.out.1.row.bts, H3.out.2.mono (fun k hk e => by omega)⟩

theorem raw_any (d : ByteArray) (p : Nat) (neg : Bool) (ds : List Nat) (s : Int) (hp : Prop10 d p neg ds) (hp38 : p ≤ 38) (w : World) :
    Calls Tryz.prog 23 #[colv (1 + (mag p : Int)) (p : Int) s, cellv d] w fun e w' => ∃ v, e = .returned v ∧ Bts w' v ((if neg then 0 else 1) :: leB (dv ds) (mag p)) ∧ Fresh w w' := by
  cases neg with
  | false => exact raw_pos d p _ ds s hp hp38 rfl w
  | true => exact raw_neg d p _ ds s hp hp38 rfl w

set_option maxRecDepth 100000 in
theorem Raw_any (sz p s : Int) (d : ByteArray) (l : List Nat) (h : ∀ w : World, Calls Tryz.prog 23 #[colv sz p s, cellv d] w fun e w' => ∃ v, e = .returned v ∧ Bts w' v l ∧ Fresh w w') (w : World) :
    Calls Tryz.prog 8 #[colv sz p s, cellv d] w fun e w' => ∃ v, e = .returned v ∧ Bts w' v l ∧ Fresh w w' := by
  have hF0 : Fresh w ((w.alloc (.cells #[.int .i64 0, .int .i64 106, .int .i64 sz, .int .i64 p, .int .i64 s, .string ⟨#[]⟩] 23)).alloc (.cells #[.bool false, .int .i64 0, .float .f64 0, .string ⟨#[]⟩, .slice none 0 0, .string d, .int .i64 0, .int .i64 0, .int .i64 0] 30)) := ((Kept.refl w _).alloc _).alloc _
  have HF := Go.Lib.hid hF0
  have H := Go.Lib.hid h
  clear hF0 h
  go_enter Tryz.func8, Tryz.ntmps8
  go_wp2_with (fail)
  refine (H.out _).mono ?_
  rintro e w1 ⟨v, rfl, hb, hF⟩
  have HB := Go.Lib.hid hb
  have HF1 := Go.Lib.hid (HF.out.fresh hF)
  clear hb hF
  go_wp2
  go_ret
  exact ⟨v, rfl, HB.out, HF1.out⟩
end Go.Proofs.YthmopakaikhjlaaGreatDoor
