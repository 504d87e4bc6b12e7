/- beUint32, beUint64, bigEndianWord: words from bytes, the highest first. -/
import Derived.Test.YthmopakaikhjlaaGreatDoorIby
import Derived.Deep.QuietTactic
import Derived.BigQuiet
import Derived.Deep.Cut
namespace Go.Proofs.YthmopakaikhjlaaGreatDoor
open Go.RowKit

theorem or32 (k a b P : Nat) (hP : P = 2 ^ k) (ha : a < P) (hb : b * P < 4294967296) (ha2 : a < 4294967296) (hs : a + b * P < 4294967296) : bits .or .u32 (a : Int) ((b : Int) * (P : Int)) = ((a + b * P : Nat) : Int) := by
  have h1 : (BitVec.ofInt 32 (a : Int)).toNat = a := by
    rw [BitVec.ofInt_natCast, BitVec.toNat_ofNat]; exact Nat.mod_eq_of_lt (by omega)
  have h2 : (BitVec.ofInt 32 ((b : Int) * (P : Int))).toNat = 2 ^ k * b := by
    rw [← Int.natCast_mul, BitVec.ofInt_natCast, BitVec.toNat_ofNat, Nat.mod_eq_of_lt (by omega), hP, Nat.mul_comm]
  show IntKind.u32.wrap ((BitVec.ofInt 32 (a : Int) ||| BitVec.ofInt 32 ((b : Int) * (P : Int))).toNat : Int) = _
  rw [BitVec.toNat_or, h1, h2, Nat.or_comm, ← Nat.two_pow_add_eq_or_of_lt (by rw [← hP]; exact ha), ← hP, Nat.mul_comm P b, Nat.add_comm]
  exact IntWalk.u32_in _ (by omega)
theorem or64 (a b : Nat) (ha : a < 4294967296) (hb : b < 4294967296) : bits .or .u64 ((b : Int) * 4294967296) (a : Int) = ((b * 4294967296 + a : Nat) : Int) := by
  have h1 : (BitVec.ofInt 64 (a : Int)).toNat = a := by
    rw [BitVec.ofInt_natCast, BitVec.toNat_ofNat]; exact Nat.mod_eq_of_lt (by omega)
  have h2 : (BitVec.ofInt 64 ((b : Int) * 4294967296)).toNat = 2 ^ 32 * b := by
    rw [show (b : Int) * 4294967296 = ((2 ^ 32 * b : Nat) : Int) by omega, BitVec.ofInt_natCast, BitVec.toNat_ofNat, Nat.mod_eq_of_lt (by omega)]
  show IntKind.u64.wrap ((BitVec.ofInt 64 ((b : Int) * 4294967296) ||| BitVec.ofInt 64 (a : Int)).toNat : Int) = _
  rw [BitVec.toNat_or, h1, h2, ← Nat.two_pow_add_eq_or_of_lt (by omega : a < 2 ^ 32)]
  rw [IntWalk.u64_in _ (by omega)]
  omega

set_option maxRecDepth 100000 in
set_option maxHeartbeats 1000000 in
theorem beU32_any (X o n c b0 b1 b2 b3 : Nat) (hn : 4 ≤ n) (h0 : b0 < 256) (h1 : b1 < 256) (h2 : b2 < 256) (h3 : b3 < 256) (w : World) (c0 : w.cell? ⟨X, o, none⟩ = some (.int .u8 (b0 : Int))) (c1 : w.cell? ⟨X, o + 1, none⟩ = some (.int .u8 (b1 : Int))) (c2 : w.cell? ⟨X, o + 2, none⟩ = some (.int .u8 (b2 : Int))) (c3 : w.cell? ⟨X, o + 3, none⟩ = some (.int .u8 (b3 : Int))) :
    Calls Tryz.prog 86 #[.slice (some ⟨X, o, none⟩) n c] w fun e w' => e = .returned (.int .u32 ((b0 * 16777216 + b1 * 65536 + b2 * 256 + b3 : Nat) : Int)) ∧ ∃ q, w' = w.drewN q := by
  have i0 : (3 : Int) < (n : Int) := by omega
  have i1 : (2 : Int) < (n : Int) := by omega
  have i2 : (1 : Int) < (n : Int) := by omega
  have i3 : (0 : Int) < (n : Int) := by omega
  go_enter Tryz.func86, Tryz.ntmps86
  go_wp2_with (fail)
  go_quiet (fail)
  go_wp2_with (fail)
  have e1 := or32 8 b3 b2 256 rfl (by omega) (by omega) (by omega) (by omega)
  have e2 := or32 16 (b3 + b2 * 256) b1 65536 rfl (by omega) (by omega) (by omega) (by omega)
  have e3 := or32 24 (b3 + b2 * 256 + b1 * 65536) b0 16777216 rfl (by omega) (by omega) (by omega) (by omega)
  rw [show ((256 : Nat) : Int) = 256 from rfl] at e1
  rw [show ((65536 : Nat) : Int) = 65536 from rfl] at e2
  rw [show ((16777216 : Nat) : Int) = 16777216 from rfl] at e3
  rw [e1, e2, e3, show b3 + b2 * 256 + b1 * 65536 + b0 * 16777216 = b0 * 16777216 + b1 * 65536 + b2 * 256 + b3 by omega]
  go_ret
  exact ⟨rfl, nq, rfl⟩

theorem four_lt (a b c d : Nat) (ha : a < 256) (hb : b < 256) (hc : c < 256) (hd : d < 256) : a * 16777216 + b * 65536 + c * 256 + d < 4294967296 := by omega

/-- Eight bytes from the place o of the block X on. -/
def Eight (w : World) (X o : Nat) (B : List Nat) : Prop := B.length = 8 ∧ (∀ b ∈ B, b < 256) ∧ ∀ j (h : j < B.length), w.cell? ⟨X, o + j, none⟩ = some (.int .u8 ((B[j] : Nat) : Int))

set_option maxRecDepth 100000 in
set_option maxHeartbeats 1000000 in
theorem beU64_any (X o n c b0 b1 b2 b3 b4 b5 b6 b7 : Nat) (hn : 8 ≤ n) (hnc : n ≤ c) (hb : (b0 < 256 ∧ b1 < 256 ∧ b2 < 256 ∧ b3 < 256) ∧ b4 < 256 ∧ b5 < 256 ∧ b6 < 256 ∧ b7 < 256) (w : World)
    (hc : (w.cell? ⟨X, o, none⟩ = some (.int .u8 (b0 : Int)) ∧ w.cell? ⟨X, o + 1, none⟩ = some (.int .u8 (b1 : Int)) ∧ w.cell? ⟨X, o + 2, none⟩ = some (.int .u8 (b2 : Int)) ∧ w.cell? ⟨X, o + 3, none⟩ = some (.int .u8 (b3 : Int))) ∧ w.cell? ⟨X, o + 4, none⟩ = some (.int .u8 (b4 : Int)) ∧ w.cell? ⟨X, o + 5, none⟩ = some (.int .u8 (b5 : Int)) ∧ w.cell? ⟨X, o + 6, none⟩ = some (.int .u8 (b6 : Int)) ∧ w.cell? ⟨X, o + 7, none⟩ = some (.int .u8 (b7 : Int))) :
    Calls Tryz.prog 85 #[.slice (some ⟨X, o, none⟩) n c] w fun e w' => e = .returned (.int .u64 (((b0 * 16777216 + b1 * 65536 + b2 * 256 + b3) * 4294967296 + (b4 * 16777216 + b5 * 65536 + b6 * 256 + b7) : Nat) : Int)) ∧ ∃ q, w' = w.drewN q := by
  obtain ⟨⟨h0, h1, h2, h3⟩, h4, h5, h6, h7⟩ := hb
  obtain ⟨⟨c0, c1, c2, c3⟩, c4, c5, c6, c7⟩ := hc
  have H1 : ∀ q, Calls Tryz.prog 86 #[.slice (some ⟨X, o, none⟩) n c] (w.drewN q) fun e w' => e = .returned (.int .u32 ((b0 * 16777216 + b1 * 65536 + b2 * 256 + b3 : Nat) : Int)) ∧ ∃ m, w' = (w.drewN q).drewN m := fun q => beU32_any X o n c b0 b1 b2 b3 (by omega) h0 h1 h2 h3 (w.drewN q) c0 c1 c2 c3
  have H2 : ∀ q, Calls Tryz.prog 86 #[.slice (some ⟨X, o + 4, none⟩) (n - 4) (c - 4)] (w.drewN q) fun e w' => e = .returned (.int .u32 ((b4 * 16777216 + b5 * 65536 + b6 * 256 + b7 : Nat) : Int)) ∧ ∃ m, w' = (w.drewN q).drewN m := fun q => beU32_any X (o + 4) (n - 4) (c - 4) b4 b5 b6 b7 (by omega) h4 h5 h6 h7 (w.drewN q) c4 c5 c6 c7
  have hA := four_lt b0 b1 b2 b3 h0 h1 h2 h3
  have hB := four_lt b4 b5 b6 b7 h4 h5 h6 h7
  obtain ⟨x, hx⟩ : ∃ x, b0 * 16777216 + b1 * 65536 + b2 * 256 + b3 = x := ⟨_, rfl⟩
  obtain ⟨y, hy⟩ : ∃ y, b4 * 16777216 + b5 * 65536 + b6 * 256 + b7 = y := ⟨_, rfl⟩
  rw [hx] at H1 hA ⊢
  rw [hy] at H2 hB ⊢
  clear hx hy
  have ho := or64 y x hB hA
  have HH1 := Go.Lib.hid H1
  have HH2 := Go.Lib.hid H2
  have i1 : (7 : Int) < (n : Int) := by omega
  have i2 : (n : Int) ≤ (c : Int) := by omega
  have i3 : ¬ c = 4 := by omega
  have i4 : (4 : Int) ≤ (n : Int) := by omega
  have i5 : (x : Int) < 4294967296 := by omega
  have i6 : (y : Int) < 4294967296 := by omega
  clear H1 H2 hA hB c0 c1 c2 c3 c4 c5 c6 h0 h1 h2 h3 h4 h5 h6
  go_enter Tryz.func85, Tryz.ntmps85
  go_wp2_with (fail)
  go_quiet ((first | (go_at_call 86; with_reducible exact Calls.quiet_of (HH1.out _)) | (go_at_call 86; with_reducible exact Calls.quiet_of (HH2.out _))))
  go_wp2_with (fail)
  go_ret
  exact ⟨by show Ending.returned (Value.int .u64 ((x : Int) * 4294967296 + (y : Int))) = _; rw [Int.natCast_add, Int.natCast_mul]; rfl, nq, rfl⟩

set_option maxRecDepth 100000 in
set_option maxHeartbeats 1000000 in
theorem beWord_any (X o n c v : Nat) (w : World)
    (H : Calls Tryz.prog 85 #[.slice (some ⟨X, o, none⟩) n c] w fun e w' => e = .returned (.int .u64 (v : Int)) ∧ ∃ m, w' = w.drewN m) :
    Calls Tryz.prog 68 #[.slice (some ⟨X, o, none⟩) n c] w fun e w' => e = .returned (.int .u64 (v : Int)) ∧ ∃ q, w' = w.drewN q := by
  have HH := Go.Lib.hid H
  clear H
  go_enter Tryz.func68, Tryz.ntmps68
  go_wp2_with (fail)
  refine Calls.mono HH.out ?_
  rintro e w' ⟨rfl, m, rfl⟩
  go_wp2_with (fail)
  go_ret
  exact ⟨rfl, m, rfl⟩
end Go.Proofs.YthmopakaikhjlaaGreatDoor
