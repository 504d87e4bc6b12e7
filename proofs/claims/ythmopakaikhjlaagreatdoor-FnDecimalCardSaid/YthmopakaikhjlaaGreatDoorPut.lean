/- The walk of (*spec.writer).put: it appends the lower bytes of a number. -/
import Derived.Test.YthmopakaikhjlaaGreatDoorRows
import Derived.Test.YthmopakaikhjlaaGreatDoorMem
import Derived.WalkKit
import Derived.WalkSpells
import Derived.BigGuardPart
import Derived.Lib.Hide
import Derived.Deep.RegionLaw
import Derived.Deep.AppendLies
import Derived.Outline
namespace Go.Proofs.YthmopakaikhjlaaGreatDoor
open Go.RowKit

theorem info5 : (Tryz.prog.info? 5).map (fun i => (i.zero, i.size, i.bytes)) = some (some (.int .u8 0), 1, 1) := by kernel_rfl

theorem byte_eq (n j : Nat) : IntKind.u8.wrap ((n : Int) / 2 ^ (8 * (j : Int)).toNat) = ((n / 256 ^ j % 256 : Nat) : Int) := by
  have h1 : (8 * (j : Int)).toNat = 8 * j := by omega
  rw [h1, IntKind.wrap_u8]
  have h2 : (2 : Int) ^ (8 * j) = ((256 ^ j : Nat) : Int) := by
    rw [Int.natCast_pow, Int.pow_mul]
    rfl
  rw [h2]
  omega

set_option maxRecDepth 100000 in
theorem put_any (p : Nat) (v : Value) (l : List Nat) (base : Nat) (n : Nat) (k : Nat) (hk : k ≤ 8) (hl : l.length ≤ 140737488350000) (w : World) (hw : Wr w base p v l) (hb : base ≤ w.heap.size) :
    Calls Tryz.prog 35 #[.pointer (some ⟨p, 0, none⟩), .int .u64 n, .int .i64 k] w fun e w' => e = .returned (.tuple #[]) ∧ ∃ v', Wr w' base p v' (l ++ leB n k) ∧ Kept w w' (WrS p v) ∧ Moved w v v' := by
  obtain ⟨i0, hi, hz0, hz1, hz2⟩ := info_parts info5
  go_enter Tryz.func35, Tryz.ntmps35
  go_wp2
  go_loopw [8] (fun i wr => ∃ j : Nat, j ≤ k ∧ i = .int .i64 j ∧ ∃ u, Wr wr base p u (l ++ leB n j) ∧ Kept w wr (WrS p v) ∧ Moved w v u) (fun i _ => k - (intOf i).toNat)
  case atStart => exact ⟨0, by omega, rfl, v, by simpa [leB] using hw, Kept.refl _ _, Moved.refl _ _⟩
  case round =>
    obtain ⟨j, hj, rfl, u, hu, hku, hmu⟩ := hrel
    by_cases hjk : j < k
    · have e8 : IntKind.i64.wrap (8 * (j : Int)) = 8 * (j : Int) := IntWalk.i64_in _ (by omega)
      have e9 : (0 : Int) ≤ 8 * (j : Int) := by omega
      have EB := Go.Lib.hid (byte_eq n j)
      have hcu := hu.cell
      have hfu := hu.frz
      have hcu2 : ∀ o, (wr.alloc o).cell? ⟨p, 0, none⟩ = some u := fun o => (hu.fresh ((Kept.refl wr _).alloc o)).cell
      have hru := hu.row
      have hll := leB_length n j
      have hsz := hku.size
      go_wp2
      have hbase : base ≤ wr.heap.size := by omega
      have hlen : (l ++ leB n j).length = l.length + j := by rw [List.length_append, hll]
      have hmx : (l ++ leB n j).length + 1 ≤ maxLen := by rw [hlen]; unfold maxLen; omega
      have hby : ((l ++ leB n j).length + 1) * 1 ≤ 140737488355328 := by rw [hlen]; omega
      have HLEN := Go.Lib.hid hlen
      clear hlen hll
      go_region_law (refine step_append_lies _ rfl (.tmp 14) (.tmp 20) 68 rfl base 5 i0 (.int .u8 0) 1 1 Tryz.underlying68 hi hz0 hz1 hz2 rfl (by decide) u (l ++ leB n j).length (u8s (l ++ leB n j)) rfl (by exact World.ownsRow.alloc hru _) ⟨wr.heap.size, 0, none⟩ 1 1 [.int .u8 (IntKind.u8.wrap ((n : Int) / 2 ^ (8 * (j : Int)).toNat))] rfl rfl (one_new _ _ _) (by simp [Value.oneCell']) (by decide) hmx hby (by simp; omega) _ rfl ?_; intro g cap w1 hown1 hg1 hat hlt; obtain ⟨hcp, hfp⟩ := hu.after ((Kept.refl wr _).alloc _).drew hg1)
      all_goals
        go_wp2
        go_roundw
        case rel =>
          have hr1 : Row base w1 (.slice (some ⟨g, 0, none⟩) (l.length + (leB n j).length + 1) cap) (l ++ leB n (j + 1)) :=
            RowK.of_own hown1 (by rw [leB_succ, ← List.append_assoc, ints_append _ _ [_], EB.out]; rfl) (by rw [List.length_append])
          obtain ⟨s1, s2, s3⟩ := hu.step ((Kept.refl wr _).alloc _).drew hr1 hg1 (moved_of hat)
          refine ⟨j + 1, by omega, by go_num, _, s1, hku.trans s2 (fun b hb hs => ?_), hmu.trans s3 hsz⟩
          rcases hs with hs | hs
          · exact .inl hs
          · rcases hmu b hs with h | h
            · exact .inr h
            · omega
        case measure => simp [intOf]; omega
    · obtain rfl : j = k := by omega
      go_wp2
      go_end0
      exact ⟨rfl, u, hu, hku, hmu⟩
end Go.Proofs.YthmopakaikhjlaaGreatDoor
