/- LastIndexByte, IsPositive. -/
import Derived.Test.YthmopakaikhjlaaGreatDoorBgi
namespace Go.Proofs.YthmopakaikhjlaaGreatDoor
open Go.RowKit

/-- Where the last point lies: one past it, or 0. -/
def LastP (s : ByteArray) (k : Nat) : Prop := k ≤ s.size ∧ (∀ j (h : j < s.size), k ≤ j → s[j].toNat ≠ 46) ∧ ∀ h : k - 1 < s.size, 0 < k → s[k - 1].toNat = 46

set_option maxRecDepth 100000 in
set_option maxHeartbeats 1000000 in
theorem lastIdx_any (s : ByteArray) (k : Nat) (hs : s.size ≤ 100) (hk : LastP s k) (w : World) :
    Calls Tryz.prog 55 #[.string s, .int .u8 46] w fun e w' => e = .returned (.int .i64 ((k : Int) - 1)) ∧ w' = w := by
  have HK := Go.Lib.hid hk
  clear hk
  go_enter Tryz.func55, Tryz.ntmps55
  go_wp2_with (fail)
  go_loopw [5] (fun i wr => ∃ m : Nat, k ≤ m ∧ m ≤ s.size ∧ i = .int .i64 ((m : Int) - 1) ∧ wr = w) (fun i _ => (intOf i + 1).toNat)
  case atStart => exact ⟨s.size, HK.out.1, Nat.le_refl _, rfl, rfl⟩
  case round =>
    obtain ⟨m, hm, hms, rfl, hw⟩ := hrel
    replace hw := hw.symm
    subst hw
    by_cases h0 : m = 0
    · subst h0
      have hk0 : k = 0 := by omega
      subst hk0
      go_wp2_with (fail)
      go_ret
      exact ⟨rfl, rfl⟩
    · obtain ⟨r, rfl⟩ : ∃ r, m = r + 1 := ⟨m - 1, by omega⟩
      rw [show ((r + 1 : Nat) : Int) - 1 = (r : Int) by omega]
      have i1 : (r : Int) < (s.size : Int) := by omega
      have hr : r < s.size := by omega
      have i2 : (0 : Int) ≤ (r : Int) := by omega
      by_cases hb : s[r].toNat = 46
      · have hkr : k = r + 1 := by
          refine Nat.le_antisymm hm (Nat.lt_of_not_le fun h => HK.out.2.1 r hr h hb)
        have e1 : (((s[r].toNat : Nat) : Int) == 46) = true := by simp; omega
        have e2 : (s[r].toNat == 46) = true := by simpa using hb
        have HR := Go.Lib.hid hkr
        clear hkr hb
        go_wp2_with (fail)
        go_ret
        have hkr := HR.out
        have e3 : (k : Int) - 1 = (r : Int) := by omega
        rw [e3]
        exact ⟨rfl, rfl⟩
      · have hkr : k ≤ r := by
          refine Nat.le_of_not_lt fun h => hb ?_
          have h1 : k = r + 1 := by omega
          have h2 := HK.out.2.2 (by rw [h1]; exact hr) (by omega)
          simpa [h1] using h2
        have e1 : (((s[r].toNat : Nat) : Int) == 46) = false := by simp; omega
        have e2 : (s[r].toNat == 46) = false := by simpa using hb
        go_wp2_with (fail)
        go_roundw
        case rel => exact ⟨r, hkr, by omega, rfl, trivial⟩
        case measure => simp [intOf]

set_option maxRecDepth 100000 in
theorem lastIndex_any (s : ByteArray) (k : Nat) (hs : s.size ≤ 100) (hk : LastP s k) (w : World) :
    Calls Tryz.prog 42 #[.string s, .int .u8 46] w fun e w' => e = .returned (.int .i64 ((k : Int) - 1)) ∧ w' = w := by
  have H := Go.Lib.hid (lastIdx_any s k hs hk w)
  clear hk
  go_enter Tryz.func42, Tryz.ntmps42
  go_wp2_with (fail)
  refine H.out.mono ?_
  rintro e w1 ⟨rfl, hw⟩
  replace hw := hw.symm
  subst hw
  go_wp2
  go_ret
  exact ⟨rfl, rfl⟩

theorem isPos_any (d : Nat) (p : Bool) (w : World) (h : w.cell? ⟨d, 4, none⟩ = some (.bool p)) :
    Calls Tryz.prog 31 #[.pointer (some ⟨d, 0, none⟩)] w fun e w' => e = .returned (.bool p) ∧ w' = w := by
  go_enter Tryz.func31, Tryz.ntmps31
  go_wp2
  go_ret
  exact ⟨rfl, rfl⟩
end Go.Proofs.YthmopakaikhjlaaGreatDoor
