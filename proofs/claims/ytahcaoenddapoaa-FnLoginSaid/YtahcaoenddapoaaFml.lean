/- ZZSendLogin, FormatLogin's function value. -/
import Derived.Test.YtahcaoenddapoaaSend8
import Derived.Test.YtahcaoenddapoaaPayload
namespace Go.Proofs.Ytahcaoenddapoaa
open Go.RowKit

set_option maxRecDepth 100000 in
set_option maxHeartbeats 2000000 in
theorem zzSend_any (lb : Nat) (x : Lg) (hx : x.proper) (hwf : x.wf) (hf : x.fits) (w : World) (hL : Lgn lb x w) :
    Calls Try.prog 49 #[.int .i64 32767, .pointer (some ⟨lb, 0, none⟩)] w fun e w' => ∃ v l, e = .returned (.tuple #[v, .nilIface]) ∧ AllPacked 32759 16 x.pay l ∧ Row w.heap.size w' v l ∧ Fresh w w' := by
  have hlb : lb < w.heap.size := World.block_lt_of_cell? w ⟨lb, 0, none⟩ hL.c0
  have hnil : Bts w (.slice none 0 0) [] := (RowK.nil (E := 5) 0 w).bts
  have HX := Go.Lib.hid hx
  have HWF := Go.Lib.hid hwf
  have HFI := Go.Lib.hid hf
  have HL := Go.Lib.hid hL
  clear hx hwf hf hL
  go_enter Try.func49, Try.ntmps49
  go_wp2_with (fail)
  refine (zzBuffer_any 32767 (by omega) (.slice none 0 0) [] (by simp) _ hnil).mono ?_
  rintro e w1 ⟨g, hb, bb, C, v, rfl, hN, hF1⟩
  have HN := Go.Lib.hid hN
  have HF1 := Go.Lib.hid hF1
  clear hN hF1
  go_wp2_with (fail)
  refine (sendLogin_any w.heap.size g hb bb C lb v x HX.out HWF.out HFI.out w1 HN.out (HL.out.fresh HF1.out) hlb HF1.out.size).mono ?_
  rintro e w2 ⟨rfl, v2, L, seq, l, R2, hP, K2⟩
  have HR2 := Go.Lib.hid R2
  have HP := Go.Lib.hid hP
  have HF2 := Go.Lib.hid (HF1.out.trans K2 (fun k hk hs => by omega))
  clear R2 hP K2
  go_wp2_with (fail)
  refine (written_any w.heap.size g hb bb 32767 32768 C 8 seq 16 v2 l L _ HR2.out).mono ?_
  rintro e w3 ⟨rfl, rfl⟩
  go_wp2
  go_ret2
  exact ⟨_, l, rfl, HP.out, HR2.out.wr.row, HF2.out⟩

theorem enter48 (args : Array Value) (W : World) : (callFunc 48 args).run Try.prog W = .ok (.enter 48 args) W := run_enter Try.func48 (by kernel_rfl) (by kernel_rfl) args W

set_option maxRecDepth 100000 in
theorem send1_any (lb p : Nat) (x : Lg) (hx : x.proper) (hwf : x.wf) (hf : x.fits) (l : List Nat) (hl : AllPacked 32759 16 x.pay l) (w : World) (hL : Lgn lb x w) (hp : w.cell? ⟨p, 0, none⟩ = some (.pointer (some ⟨lb, 0, none⟩))) :
    Calls Try.prog 48 #[.pointer (some ⟨p, 0, none⟩)] w fun e w' => ∃ b, e = .returned (.tuple #[b, .nilIface]) ∧ Bts w' b l ∧ Fresh w w' := by
  have HX := Go.Lib.hid hx
  have HWF := Go.Lib.hid hwf
  have HFI := Go.Lib.hid hf
  have HL := Go.Lib.hid hL
  have HLL := Go.Lib.hid hl
  clear hx hwf hf hL hl
  go_enter Try.func48, Try.ntmps48
  go_wp2_with (fail)
  refine (zzSend_any lb x HX.out HWF.out HFI.out _ HL.out).mono ?_
  rintro e w1 ⟨v, l', rfl, hP, hr, hF⟩
  have e1 := hP.one HLL.out
  subst e1
  go_wp2
  go_ret2
  exact ⟨v, rfl, hr.bts, hF⟩
end Go.Proofs.Ytahcaoenddapoaa
