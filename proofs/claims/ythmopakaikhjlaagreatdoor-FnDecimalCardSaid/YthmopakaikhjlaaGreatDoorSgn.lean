/- scanSign. -/
import Derived.Test.YthmopakaikhjlaaGreatDoorRdr
namespace Go.Proofs.YthmopakaikhjlaaGreatDoor
open Go.RowKit

theorem enter151 (args : Array Value) (W : World) : (callFunc 151 args).run Tryz.prog W = .ok (.enter 151 args) W := run_enter Tryz.func151 (by kernel_rfl) (by kernel_rfl) args W
theorem enter152 (args : Array Value) (W : World) : (callFunc 152 args).run Tryz.prog W = .ok (.enter 152 args) W := run_enter Tryz.func152 (by kernel_rfl) (by kernel_rfl) args W

theorem methReadByte (x : Value) (W : World) : (method 284 96 x "ReadByte").run Tryz.prog W = .ok (151, x) W := by kernel_rfl
theorem methUnreadByte (x : Value) (W : World) : (method 284 96 x "UnreadByte").run Tryz.prog W = .ok (152, x) W := by kernel_rfl

set_option maxRecDepth 100000 in
set_option maxHeartbeats 1000000 in
theorem signNeg_any (rd : Nat) (s : ByteArray) (w : World) (h : Rdr w rd s 0) (h0 : 0 < s.size) (hs : s.size ≤ 1000) (h45 : s[0].toNat = 45) :
    Calls Tryz.prog 70 #[.iface 96 (.pointer (some ⟨rd, 0, none⟩))] w fun e w' => e = .returned (.tuple #[.bool true, .nilIface]) ∧ Rdr w' rd s 1 ∧ Kept w w' (fun k => k = rd) := by
  have hen := enter151
  have hme := methReadByte
  have HR := readByte_any rd 0 s w h h0 hs
  rw [h45] at HR
  have HH := Go.Lib.hid HR
  clear HR h h45
  go_enter Tryz.func70, Tryz.ntmps70
  go_wp2_with (fail)
  refine HH.out.mono ?_
  rintro e w1 ⟨rfl, hr, hk⟩
  have HR := Go.Lib.hid (And.intro hr hk)
  clear hr hk
  go_wp2
  go_ret2
  exact ⟨rfl, HR.out.1, HR.out.2⟩

set_option maxRecDepth 100000 in
set_option maxHeartbeats 1000000 in
theorem signPos_any (rd b : Nat) (s : ByteArray) (w : World) (h : Rdr w rd s 0) (h0 : 0 < s.size) (hs : s.size ≤ 1000) (hb : s[0].toNat = b) (h45 : b ≠ 45) (h43 : b ≠ 43) :
    Calls Tryz.prog 70 #[.iface 96 (.pointer (some ⟨rd, 0, none⟩))] w fun e w' => e = .returned (.tuple #[.bool false, .nilIface]) ∧ Rdr w' rd s 0 ∧ Kept w w' (fun k => k = rd) := by
  have hen := enter151
  have hme := methReadByte
  have hen2 := enter152
  have hme2 := methUnreadByte
  have i1 : ((b : Int) == 45) = false := by simp; omega
  have i2 : ((b : Int) == 43) = false := by simp; omega
  have i3 : (b == 45) = false := by simp; omega
  have i4 : (b == 43) = false := by simp; omega
  have HR := readByte_any rd 0 s w h h0 hs
  rw [hb] at HR
  have HH := Go.Lib.hid HR
  clear HR h hb h45 h43
  go_enter Tryz.func70, Tryz.ntmps70
  go_wp2_with (fail)
  refine HH.out.mono ?_
  rintro e w1 ⟨rfl, hr, hk⟩
  have HR := Go.Lib.hid (And.intro hr hk)
  clear hr hk
  go_wp2_with (fail)
  refine (unread_any rd 0 s w1 HR.out.1 (by omega)).mono ?_
  rintro e w2 ⟨rfl, hr, hk⟩
  have HR2 := Go.Lib.hid (And.intro hr (HR.out.2.trans hk (fun _ _ h => h)))
  clear hr hk
  go_wp2
  go_ret2
  exact ⟨rfl, HR2.out.1, HR2.out.2⟩
end Go.Proofs.YthmopakaikhjlaaGreatDoor
