/- nat.setBytes, Int.SetBytes at a buffer of sixteen bytes. -/
import Derived.Test.YthmopakaikhjlaaGreatDoorBe
import Derived.Test.YthmopakaikhjlaaGreatDoorAbs
namespace Go.Proofs.YthmopakaikhjlaaGreatDoor
open Go.RowKit

/-- The number of eight bytes of f, from the place o on, the highest first. -/
def w8 (f : Nat → Nat) (o : Nat) : Nat := (f o * 16777216 + f (o + 1) * 65536 + f (o + 2) * 256 + f (o + 3)) * 4294967296 + (f (o + 4) * 16777216 + f (o + 5) * 65536 + f (o + 6) * 256 + f (o + 7))

/-- A block's sixteen bytes. -/
def Six (w : World) (X : Nat) (f : Nat → Nat) : Prop := (∀ j, f j < 256) ∧ ∀ j, j < 16 → w.cell? ⟨X, j, none⟩ = some (.int .u8 ((f j : Nat) : Int))

theorem two_lt (a b : Nat) (ha : a < 4294967296) (hb : b < 4294967296) : a * 4294967296 + b < 18446744073709551616 := by omega
theorem w8_lt (f : Nat → Nat) (h : ∀ j, f j < 256) (o : Nat) : w8 f o < 18446744073709551616 := by
  unfold w8
  exact two_lt _ _ (four_lt _ _ _ _ (h o) (h (o + 1)) (h (o + 2)) (h (o + 3))) (four_lt _ _ _ _ (h (o + 4)) (h (o + 5)) (h (o + 6)) (h (o + 7)))

theorem beSix (X o c : Nat) (f : Nat → Nat) (w : World) (h : Six w X f) (ho : o + 8 ≤ 16) (hc : 8 ≤ c) : Calls Tryz.prog 68 #[.slice (some ⟨X, o, none⟩) 8 c] w fun e w' => e = .returned (.int .u64 ((w8 f o : Nat) : Int)) ∧ ∃ q, w' = w.drewN q :=
  beWord_any X o 8 c (w8 f o) w (beU64_any X o 8 c _ _ _ _ _ _ _ _ (by omega) hc ⟨⟨h.1 o, h.1 _, h.1 _, h.1 _⟩, h.1 _, h.1 _, h.1 _, h.1 _⟩ w ⟨⟨h.2 o (by omega), h.2 _ (by omega), h.2 _ (by omega), h.2 _ (by omega)⟩, h.2 _ (by omega), h.2 _ (by omega), h.2 _ (by omega), h.2 _ (by omega)⟩)

set_option maxRecDepth 100000 in
set_option maxHeartbeats 1000000 in
theorem setBytes_any (X : Nat) (f : Nat → Nat) (w : World) (h : Six w X f) :
    Calls Tryz.prog 60 #[.slice none 0 0, .slice (some ⟨X, 0, none⟩) 16 16] w fun e w' => ∃ v' L', e = .returned v' ∧ Nt w' w.heap.size v' L' ∧ nv L' = w8 f 0 * 18446744073709551616 + w8 f 8 ∧ L'.length ≤ 2 ∧ Top L' ∧ Fresh w w' := by
  have HM := Go.Lib.hid (make_new none 0 0 2 (by omega) (by omega) w)
  have HS := Go.Lib.hid h
  have hlt : X < w.heap.size := World.block_lt_of_cell? w _ (h.2 0 (by omega))
  have HX := Go.Lib.hid hlt
  clear h hlt
  go_enter Tryz.func60, Tryz.ntmps60
  go_wp2_with (fail)
  refine HM.out.mono ?_
  rintro e w1 ⟨z, rfl, hW, hF⟩
  obtain ⟨g, hg⟩ : ∃ g, w.heap.size = g := ⟨_, rfl⟩
  obtain ⟨cl, hcl⟩ : ∃ cl, 2 + z = cl := ⟨_, rfl⟩
  rw [hg] at hW HX ⊢
  rw [hcl] at hW ⊢
  have HG := Go.Lib.hid (And.intro hg hcl)
  have H1 := Go.Lib.hid (And.intro hW hF)
  clear hg hcl hW hF
  go_wp2_with (fail)
  go_loopw [5, 6] (fun i kk wr => ∃ (k : Nat) (C : List Nat), k ≤ 2 ∧ i = .int .i64 (16 - 8 * (k : Int)) ∧ kk = .int .i64 (k : Int) ∧ C.length = cl ∧ WB wr g C ∧ C.take k = (List.take k [w8 f 8, w8 f 0]) ∧ Fresh w wr) (fun _ kk _ => 2 - (intOf kk).toNat)
  case atStart => exact ⟨0, _, Nat.zero_le _, rfl, rfl, by simp, H1.out.1, rfl, H1.out.2⟩
  case round =>
    obtain ⟨k, C, hk, rfl, rfl, hl, hW, ht, hF⟩ := hrel
    have HK := Go.Lib.hid (And.intro hl (And.intro hW (And.intro ht hF)))
    clear hl hW ht hF
    have h3 : k = 0 ∨ k = 1 ∨ k = 2 := by omega
    have hcl2 : 2 ≤ cl := by have := HG.out.2; omega
    have i1 : (1 : Int) < (cl : Int) := by omega
    have i0 : (0 : Int) < (cl : Int) := by omega
    rcases h3 with rfl | rfl | rfl
    · have HC := Go.Lib.hid (beSix X 8 8 f wr ⟨HS.out.1, fun j hj => HK.out.2.2.2.held (HS.out.2 j hj) (fun h => h)⟩ (by omega) (by omega))
      have c0 := HK.out.2.1.cellAt 0 (by rw [HK.out.1]; omega)
      have f0 := HK.out.2.1.frozenAt 0
      obtain ⟨zz, hzz⟩ : ∃ zz, C[0]'(by rw [HK.out.1]; omega) = zz := ⟨_, rfl⟩
      rw [hzz] at c0
      clear hzz
      go_wp2_with (fail)
      refine HC.out.mono ?_
      rintro e w2 ⟨rfl, q, rfl⟩
      go_wp2_with (fail)
      go_roundw
      case rel =>
        refine ⟨1, C.set 0 (w8 f 8), by omega, rfl, rfl, by simp [HK.out.1], HK.out.2.1.stored 0 _, ?_, (HK.out.2.2.2.drewN q).setCell (p := ⟨g, 0, none⟩) (.inr (by have := HG.out.1; show w.heap.size ≤ g; omega)) _⟩
        cases C with
        | nil => have := HK.out.1; simp at this; omega
        | cons a C => simp
      case measure => simp [intOf]
    · have HC := Go.Lib.hid (beSix X 0 16 f wr ⟨HS.out.1, fun j hj => HK.out.2.2.2.held (HS.out.2 j hj) (fun h => h)⟩ (by omega) (by omega))
      have c0 := HK.out.2.1.cellAt 1 (by rw [HK.out.1]; omega)
      have f0 := HK.out.2.1.frozenAt 1
      obtain ⟨zz, hzz⟩ : ∃ zz, C[1]'(by rw [HK.out.1]; omega) = zz := ⟨_, rfl⟩
      rw [hzz] at c0
      clear hzz
      go_wp2_with (fail)
      refine HC.out.mono ?_
      rintro e w2 ⟨rfl, q, rfl⟩
      go_wp2_with (fail)
      go_roundw
      case rel =>
        refine ⟨2, C.set 1 (w8 f 0), by omega, rfl, rfl, by simp [HK.out.1], HK.out.2.1.stored 1 _, ?_, (HK.out.2.2.2.drewN q).setCell (p := ⟨g, 1, none⟩) (.inr (by have := HG.out.1; show w.heap.size ≤ g; omega)) _⟩
        have ht := HK.out.2.2.1
        cases C with
        | nil => have := HK.out.1; simp at this; omega
        | cons a C => cases C with
          | nil => have := HK.out.1; simp at this; omega
          | cons b C => simpa using ht
      case measure => simp [intOf]
    · have hb : ∀ d ∈ C.take 2, d < 18446744073709551616 := by
        rw [HK.out.2.2.1]
        intro d hd
        simp at hd
        rcases hd with rfl | rfl
        · exact w8_lt f HS.out.1 8
        · exact w8_lt f HS.out.1 0
      have HN := Go.Lib.hid (norm_any g 2 cl C wr HK.out.2.1 (by rw [HK.out.1]; omega) hcl2 (by omega) hb)
      have HBB := Go.Lib.hid hb
      clear hb
      rw [show (16 - 8 * ((2 : Nat) : Int)) = 0 from rfl]
      rw [show ((2 : Nat) : Int) = 2 from rfl]
      go_wp2_with (fail)
      refine HN.out.mono ?_
      rintro e w3 ⟨m3, rfl, hm3, hv3, ht3, hw⟩
      replace hw := hw.symm
      subst hw
      have HM3 := Go.Lib.hid (And.intro hm3 (And.intro hv3 ht3))
      clear hm3 hv3 ht3
      go_wp2_with (fail)
      go_ret
      refine ⟨_, C.take m3, rfl, ⟨.inr ⟨g, C, m3, by rw [HK.out.1]; rfl, Nat.le_of_eq HG.out.1, HK.out.2.1, by rw [HK.out.1]; have := HM3.out.1; omega, rfl⟩, fun d hd => ?_⟩, ?_, ?_, HM3.out.2.2, HK.out.2.2.2⟩
      · refine HBB.out d ?_
        have e1 : C.take m3 = (C.take 2).take m3 := by rw [List.take_take, Nat.min_eq_left HM3.out.1]
        rw [e1] at hd
        exact List.mem_of_mem_take hd
      · rw [HM3.out.2.1, HK.out.2.2.1]
        show w8 f 8 + 18446744073709551616 * (w8 f 0 + 18446744073709551616 * 0) = _
        omega
      · rw [List.length_take]; have := HM3.out.1; omega

set_option maxRecDepth 100000 in
set_option maxHeartbeats 1000000 in
theorem intSetBytes_any (X ib : Nat) (f : Nat → Nat) (w : World) (h : Six w X f) (hB : Big w ib false (.slice none 0 0)) :
    Calls Tryz.prog 50 #[.pointer (some ⟨ib, 0, none⟩), .slice (some ⟨X, 0, none⟩) 16 16] w fun e w' => ∃ A n c L', e = .returned (.pointer (some ⟨ib, 0, none⟩)) ∧ Big w' ib false (.slice A n c) ∧ Nt w' w.heap.size (.slice A n c) L' ∧ nv L' = w8 f 0 * 18446744073709551616 + w8 f 8 ∧ L'.length = n ∧ n ≤ 2 ∧ Top L' ∧ Kept w w' (fun k => k = ib) := by
  have H := Go.Lib.hid (setBytes_any X f w h)
  have c0 := hB.c0
  have c1 := hB.c1
  have HB := Go.Lib.hid hB
  clear h hB
  go_enter Tryz.func50, Tryz.ntmps50
  go_wp2_with (fail)
  refine H.out.mono ?_
  rintro e w1 ⟨v', L', rfl, hN, hv, hl, ht, hF⟩
  obtain ⟨A, c, rfl, hc⟩ := hN.slice
  have hB1 := HB.out.kept hF (fun h => h)
  have f1 := hB1.f 1
  have d1 := hB1.c1
  have hB2 := hB1.set1 (.slice A L'.length c)
  have f0 := hB2.f 0
  have d0 := hB2.c0
  have HA := Go.Lib.hid (And.intro hN (And.intro hv (And.intro hl (And.intro ht (And.intro hF hB2)))))
  obtain ⟨n, hn⟩ : ∃ n, L'.length = n := ⟨_, rfl⟩
  rw [hn] at HA d0 f0 ⊢
  have HN := Go.Lib.hid hn
  clear hN hv hl ht hF hB1 hB2 hn hc c0 c1
  go_wp2_with (fail)
  go_ret
  have hb := HB.out.lt
  have hK : Kept w _ (fun k => k = ib) := ((HA.out.2.2.2.2.1.mono (S := fun k => k = ib) (fun _ _ h => h.elim)).setCell (p := ⟨ib, 1, none⟩) (.inl rfl) (.slice A n c)).setCell (p := ⟨ib, 0, none⟩) (.inl rfl) (.bool false)
  have hKs : Kept w1 _ (fun k => k = ib) := ((Kept.refl w1 (fun k => k = ib)).setCell (p := ⟨ib, 1, none⟩) (.inl rfl) (.slice A n c)).setCell (p := ⟨ib, 0, none⟩) (.inl rfl) (.bool false)
  exact ⟨A, n, c, L', rfl, HA.out.2.2.2.2.2.set0 false, HA.out.1.kept hKs (fun k hk e => by have := HA.out.1.block k hk; omega), HA.out.2.1, HN.out, HA.out.2.2.1, HA.out.2.2.2.1, hK⟩
end Go.Proofs.YthmopakaikhjlaaGreatDoor
