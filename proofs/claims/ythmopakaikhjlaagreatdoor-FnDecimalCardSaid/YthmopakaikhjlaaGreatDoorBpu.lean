/- bePutUint32. -/
import Derived.Test.YthmopakaikhjlaaGreatDoorSby
namespace Go.Proofs.YthmopakaikhjlaaGreatDoor
open Go.RowKit

/-- Four bytes of x, the highest first, at the place o. -/
def put4 (L : List Nat) (o x : Nat) : List Nat := (((L.set o (x / 16777216 % 256)).set (o + 1) (x / 65536 % 256)).set (o + 2) (x / 256 % 256)).set (o + 3) (x % 256)

set_option maxRecDepth 100000 in
set_option maxHeartbeats 1000000 in
theorem bePut32_any (X o N C n c base x : Nat) (hn : 4 ≤ n) (hx : x < 4294967296) (L : List Nat) (w : World) (hR : Row base w (.slice (some ⟨X, 0, none⟩) N C) L) (ho : o + 4 ≤ L.length) :
    Calls Tryz.prog 49 #[.slice (some ⟨X, o, none⟩) n c, .int .u32 (x : Int)] w fun e w' => e = .returned (.tuple #[]) ∧ Row base w' (.slice (some ⟨X, 0, none⟩) N C) (put4 L o x) ∧ Kept w w' (fun k => k = X) := by
  have c0 := hR.cellAt o (by omega)
  have c1 := hR.cellAt (o + 1) (by omega)
  have c2 := hR.cellAt (o + 2) (by omega)
  have c3 := hR.cellAt (o + 3) (by omega)
  have f0 := hR.frozenAt o
  have f1 := hR.frozenAt (o + 1)
  have f2 := hR.frozenAt (o + 2)
  have f3 := hR.frozenAt (o + 3)
  generalize L[o] = L0 at *
  generalize L[o + 1] = L1 at *
  generalize L[o + 2] = L2 at *
  generalize L[o + 3] = L3 at *
  have i0 : (0 : Int) < (n : Int) := by omega
  have i1 : (1 : Int) < (n : Int) := by omega
  have i2 : (2 : Int) < (n : Int) := by omega
  have i3 : (3 : Int) < (n : Int) := by omega
  have HR := Go.Lib.hid hR
  clear hR
  go_enter Tryz.func49, Tryz.ntmps49
  go_wp2_with (fail)
  go_end0
  have hs := (((HR.out.stored o (x / 16777216 % 256)).stored (o + 1) (x / 65536 % 256)).stored (o + 2) (x / 256 % 256)).stored (o + 3) (x % 256)
  have e0 : ((x / 16777216 % 256 : Nat) : Int) = (x : Int) / 16777216 := by omega
  have e1 : ((x / 65536 % 256 : Nat) : Int) = (x : Int) / 65536 % 256 := by omega
  have e2 : ((x / 256 % 256 : Nat) : Int) = (x : Int) / 256 % 256 := by omega
  have e3 : ((x % 256 : Nat) : Int) = (x : Int) % 256 := by omega
  rw [e0, e1, e2, e3] at hs
  exact ⟨rfl, hs, ((((Kept.refl w (fun k => k = X)).setCell (p := ⟨X, o, none⟩) (.inl rfl) _).setCell (p := ⟨X, o + 1, none⟩) (.inl rfl) _).setCell (p := ⟨X, o + 2, none⟩) (.inl rfl) _).setCell (p := ⟨X, o + 3, none⟩) (.inl rfl) _⟩
end Go.Proofs.YthmopakaikhjlaaGreatDoor
