/- lePutUint32, lePutUint16. -/
import Derived.Test.YtahcaoenddapoaaRnd
namespace Go.Proofs.Ytahcaoenddapoaa
open Go.RowKit

theorem nat_div_mod (t a m : Nat) : ((t / a % m : Nat) : Int) = (t : Int) / (a : Int) % (m : Int) := rfl

set_option maxRecDepth 100000 in
theorem lePut32_any (base b o n c cc x : Nat) (L : List Nat) (w : World) (hr : Row base w (.slice (some ⟨b, 0, none⟩) n c) L) (ho : o + 4 ≤ n) (hx : x < 4294967296) :
    Calls Try.prog 117 #[.slice (some ⟨b, o, none⟩) 4 cc, .int .u32 (x : Int)] w fun e w' => e = .returned (.tuple #[]) ∧ Row base w' (.slice (some ⟨b, 0, none⟩) n c) ((((L.set o (x % 256)).set (o + 1) (x / 256 % 256)).set (o + 2) (x / 65536 % 256)).set (o + 3) (x / 16777216 % 256)) ∧ Kept w w' (fun k => k = b) := by
  have hlen := hr.len
  have hc := hr.cellAt
  obtain ⟨z0, c0⟩ : ∃ z : Int, w.cell? ⟨b, o, none⟩ = some (.int .u8 z) := ⟨_, hc o (by omega)⟩
  obtain ⟨z1, c1⟩ : ∃ z : Int, w.cell? ⟨b, o + 1, none⟩ = some (.int .u8 z) := ⟨_, hc (o + 1) (by omega)⟩
  obtain ⟨z2, c2⟩ : ∃ z : Int, w.cell? ⟨b, o + 2, none⟩ = some (.int .u8 z) := ⟨_, hc (o + 2) (by omega)⟩
  obtain ⟨z3, c3⟩ : ∃ z : Int, w.cell? ⟨b, o + 3, none⟩ = some (.int .u8 z) := ⟨_, hc (o + 3) (by omega)⟩
  have f0 := hr.frozenAt o
  have f1 := hr.frozenAt (o + 1)
  have f2 := hr.frozenAt (o + 2)
  have f3 := hr.frozenAt (o + 3)
  obtain ⟨B0, hB0⟩ : ∃ B : Nat, B = x % 256 := ⟨_, rfl⟩
  obtain ⟨B1, hB1⟩ : ∃ B : Nat, B = x / 256 % 256 := ⟨_, rfl⟩
  obtain ⟨B2, hB2⟩ : ∃ B : Nat, B = x / 65536 % 256 := ⟨_, rfl⟩
  obtain ⟨B3, hB3⟩ : ∃ B : Nat, B = x / 16777216 % 256 := ⟨_, rfl⟩
  have hx0 : (0 : Int) ≤ (x : Int) := Int.natCast_nonneg _
  have hx1 : (x : Int) ≤ 4294967295 := by omega
  have e0 : (B0 : Int) = (x : Int) % 256 := by rw [hB0]; rfl
  have e1 : (B1 : Int) = (x : Int) / 256 % 256 := by rw [hB1]; exact nat_div_mod _ _ _
  have e2 : (B2 : Int) = (x : Int) / 65536 % 256 := by rw [hB2]; exact nat_div_mod _ _ _
  have e3 : (B3 : Int) = (x : Int) / 16777216 := by rw [hB3, nat_div_mod]; omega
  have hr4 := (((hr.stored o B0).stored (o + 1) B1).stored (o + 2) B2).stored (o + 3) B3
  have hK4 := (((((Kept.refl w (fun k => k = b)).setCell (p := ⟨b, o, none⟩) (.inl rfl) (.int .u8 (B0 : Int))).setCell (p := ⟨b, o + 1, none⟩) (.inl rfl) (.int .u8 (B1 : Int))).setCell (p := ⟨b, o + 2, none⟩) (.inl rfl) (.int .u8 (B2 : Int))).setCell (p := ⟨b, o + 3, none⟩) (.inl rfl) (.int .u8 (B3 : Int)))
  rw [← hB0, ← hB1, ← hB2, ← hB3]
  generalize (x : Int) = T at *
  rw [e0, e1, e2, e3] at hr4 hK4
  have HR := Go.Lib.hid hr4
  have HK := Go.Lib.hid hK4
  clear hB0 hB1 hB2 hB3 e0 e1 e2 e3 hr hr4 hK4 hc hlen hx ho
  go_enter Try.func117, Try.ntmps117
  go_wp2
  go_end0
  exact ⟨rfl, HR.out, HK.out⟩

set_option maxRecDepth 100000 in
theorem lePut16_any (base b o n c len cc x : Nat) (L : List Nat) (w : World) (hr : Row base w (.slice (some ⟨b, 0, none⟩) n c) L) (ho : o + 2 ≤ n) (hl : 2 ≤ len) (hx : x < 65536) :
    Calls Try.prog 123 #[.slice (some ⟨b, o, none⟩) len cc, .int .u16 (x : Int)] w fun e w' => e = .returned (.tuple #[]) ∧ Row base w' (.slice (some ⟨b, 0, none⟩) n c) ((L.set o (x % 256)).set (o + 1) (x / 256 % 256)) ∧ Kept w w' (fun k => k = b) := by
  have hlen := hr.len
  have hc := hr.cellAt
  obtain ⟨z0, c0⟩ : ∃ z : Int, w.cell? ⟨b, o, none⟩ = some (.int .u8 z) := ⟨_, hc o (by omega)⟩
  obtain ⟨z1, c1⟩ : ∃ z : Int, w.cell? ⟨b, o + 1, none⟩ = some (.int .u8 z) := ⟨_, hc (o + 1) (by omega)⟩
  have f0 := hr.frozenAt o
  have f1 := hr.frozenAt (o + 1)
  have i0 : (0 : Int) < (len : Int) := by omega
  have i1 : (1 : Int) < (len : Int) := by omega
  obtain ⟨B0, hB0⟩ : ∃ B : Nat, B = x % 256 := ⟨_, rfl⟩
  obtain ⟨B1, hB1⟩ : ∃ B : Nat, B = x / 256 % 256 := ⟨_, rfl⟩
  have hx0 : (0 : Int) ≤ (x : Int) := Int.natCast_nonneg _
  have hx1 : (x : Int) ≤ 65535 := by omega
  have e0 : (B0 : Int) = (x : Int) % 256 := by rw [hB0]; rfl
  have e1 : (B1 : Int) = (x : Int) / 256 := by rw [hB1, nat_div_mod]; omega
  have hr4 := (hr.stored o B0).stored (o + 1) B1
  have hK4 := (((Kept.refl w (fun k => k = b)).setCell (p := ⟨b, o, none⟩) (.inl rfl) (.int .u8 (B0 : Int))).setCell (p := ⟨b, o + 1, none⟩) (.inl rfl) (.int .u8 (B1 : Int)))
  rw [← hB0, ← hB1]
  generalize (x : Int) = T at *
  rw [e0, e1] at hr4 hK4
  have HR := Go.Lib.hid hr4
  have HK := Go.Lib.hid hK4
  clear hB0 hB1 e0 e1 hr hr4 hK4 hc hlen hx ho
  go_enter Try.func123, Try.ntmps123
  go_wp2
  go_end0
  exact ⟨rfl, HR.out, HK.out⟩
end Go.Proofs.Ytahcaoenddapoaa
