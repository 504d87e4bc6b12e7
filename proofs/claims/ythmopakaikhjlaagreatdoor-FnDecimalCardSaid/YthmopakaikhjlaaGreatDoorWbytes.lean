/- The walk of (*spec.writer).bytes: it appends bytes. -/
import Derived.Test.YthmopakaikhjlaaGreatDoorPut
import Derived.Test.YthmopakaikhjlaaGreatDoorApp
namespace Go.Proofs.YthmopakaikhjlaaGreatDoor
open Go.RowKit

set_option maxRecDepth 100000 in
theorem bytes_any (p : Nat) (v x : Value) (l m : List Nat) (base : Nat) (hl : l.length + m.length ≤ 140737488355328) (w : World) (hw : Wr w base p v l) (hx : Bts w x m) (hb : base ≤ w.heap.size) :
    Calls Tryz.prog 38 #[.pointer (some ⟨p, 0, none⟩), x] w fun e w' => e = .returned (.tuple #[]) ∧ ∃ v', Wr w' base p v' (l ++ m) ∧ Kept w w' (WrS p v) ∧ Moved w v v' := by
  obtain ⟨i0, hi, hz0, hz1, hz2⟩ := info_parts info5
  have hcu := hw.cell
  have hfu := hw.frz
  go_enter Tryz.func38, Tryz.ntmps38
  go_wp2_with (at_builtin; refine wpList_append_bts _ rfl (.tmp 7) (.tmp 8) 68 28 rfl base i0 Tryz.underlying68 Tryz.underlying28 hi hz0 hz1 hz2 v x rfl rfl l m hw.row hx hl hb ?_; intro A' c' w1 hr1 hg1 hm1; obtain ⟨hcp, hfp⟩ := hw.after (Kept.refl w _) hg1)
  go_end0
  obtain ⟨s1, s2, s3⟩ := hw.step (Kept.refl w _) hr1 hg1 hm1
  exact ⟨rfl, _, s1, s2, s3⟩
end Go.Proofs.YthmopakaikhjlaaGreatDoor
