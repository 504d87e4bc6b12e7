/- impl.written; the encoders of the thin package. -/
import Derived.Test.YtahcaoenddapoaaDoorDt5
namespace Go.Proofs.YtahcaoenddapoaaDoor
open Go.RowKit

set_option maxRecDepth 100000 in
theorem written1_any (F : Nat) (caps : Array Value) (l : List Nat) (w : World) (p : Nat) (henter : ∀ W : World, (callFunc F caps).run Tryd.prog W = .ok (.enter F caps) W)
    (hc : w.cell? ⟨p, 0, none⟩ = some (.func (.func F) #[] caps)) (hcall : Calls Tryd.prog F caps w fun e w' => ∃ b, e = .returned b ∧ Bts w' b l ∧ Fresh w w') :
    Calls Tryd.prog 37 #[.pointer (some ⟨p, 0, none⟩)] w fun e w' => ∃ b, e = .returned (.tuple #[b, .nilIface]) ∧ Bts w' b l ∧ Fresh w w' := by
  go_enter Tryd.func37, Tryd.ntmps37
  go_wp2_with (fail)
  refine hcall.mono ?_
  rintro e w1 ⟨b, rfl, hb, hF⟩
  have HB := Go.Lib.hid hb
  clear hb
  go_wp2
  go_ret2
  exact ⟨b, rfl, HB.out, hF⟩

theorem enter37 (args : Array Value) (W : World) : (callFunc 37 args).run Tryd.prog W = .ok (.enter 37 args) W := run_enter Tryd.func37 (by kernel_rfl) (by kernel_rfl) args W
theorem enter23 (args : Array Value) (W : World) : (callFunc 23 args).run Tryd.prog W = .ok (.enter 23 args) W := run_enter Tryd.func23 (by kernel_rfl) (by kernel_rfl) args W
theorem enter27 (args : Array Value) (W : World) : (callFunc 27 args).run Tryd.prog W = .ok (.enter 27 args) W := run_enter Tryd.func27 (by kernel_rfl) (by kernel_rfl) args W
theorem enter29 (args : Array Value) (W : World) : (callFunc 29 args).run Tryd.prog W = .ok (.enter 29 args) W := run_enter Tryd.func29 (by kernel_rfl) (by kernel_rfl) args W
theorem enter31 (args : Array Value) (W : World) : (callFunc 31 args).run Tryd.prog W = .ok (.enter 31 args) W := run_enter Tryd.func31 (by kernel_rfl) (by kernel_rfl) args W

set_option maxRecDepth 100000 in
theorem written_any (F : Nat) (caps : Array Value) (l : List Nat) (hl : l.length ≤ 140737488355328) (w : World) (henter : ∀ W : World, (callFunc F caps).run Tryd.prog W = .ok (.enter F caps) W)
    (hcall : ∀ W : World, Fresh w W → Calls Tryd.prog F caps W fun e w' => ∃ b, e = .returned b ∧ Bts w' b l ∧ Fresh W w') :
    Calls Tryd.prog 22 #[.func (.func F) #[] caps] w fun e w' => ∃ v, e = .returned v ∧ Row w.heap.size w' v l ∧ Fresh w w' := by
  have hmf : ∀ (fn : Fn) (first cap : Array Value) (w : World), (Instr.makeFunc fn first cap).run Tryd.prog w = .ok (.func fn first cap) w := fun _ _ _ _ => rfl
  have HC := Go.Lib.hid hcall
  clear hcall
  go_enter Tryd.func22, Tryd.ntmps22
  go_wp2_with (fail)
  have hF0 : Fresh w (w.alloc (.cells #[.func (.func F) #[] caps] 53)) := (Kept.refl w _).alloc _
  have hc0 : (w.alloc (.cells #[.func (.func F) #[] caps] 53)).cell? ⟨w.heap.size, 0, none⟩ = some (.func (.func F) #[] caps) := cell_of_row _ _ 0 _ _ _ (heap_alloc_new _ _)
  refine (made_any 37 _ l hl _ (enter37 _) (fun W hW => written1_any F caps l W w.heap.size henter (hW.held hc0 (fun h => h)) (HC.out W (hF0.fresh hW)))).mono ?_
  rintro e w1 ⟨v, rfl, hr, hF⟩
  have HR := Go.Lib.hid (hr.lower (base' := w.heap.size) (by simp))
  have HF := Go.Lib.hid (hF0.fresh hF)
  clear hr hF hF0
  go_wp2
  go_ret
  exact ⟨v, rfl, HR.out, HF.out⟩

set_option maxRecDepth 100000 in
theorem zzDate_any (n E : Nat) (hn : n < 1000000000) (hE : E / 86400 ≤ 3652058) (w : World) : Calls Tryd.prog 24 #[tv n E (.pointer none)] w fun e w' => ∃ v, e = .returned v ∧ Bts w' v (leB (E / 86400) 3) ∧ Fresh w w' := by
  have hF0 : Fresh w (w.alloc (.cells #[.int .u64 (n : Int), .int .i64 (E : Int), .pointer none] 51)) := (Kept.refl w _).alloc _
  go_enter Tryd.func24, Tryd.ntmps24
  go_wp2_with (fail)
  refine (encDate_any n E hn hE _).mono ?_
  rintro e w1 ⟨v, rfl, hr, hF⟩
  have HR := Go.Lib.hid hr.bts
  clear hr
  go_wp2
  go_ret
  exact ⟨v, rfl, HR.out, hF0.fresh hF⟩

set_option maxRecDepth 100000 in
theorem zzTime_any (s t : Nat) (h mi sc N : Int) (hs : s ≤ 7) (h0 : 0 ≤ h) (h1 : h ≤ 23) (m0 : 0 ≤ mi) (m1 : mi ≤ 59) (s0 : 0 ≤ sc) (s1 : sc ≤ 59) (hN0 : 0 ≤ N) (hN1 : N < 1000000000) (ht : ((h * 3600 + mi * 60 + sc) * 1000000000 + N) / ((10 ^ (9 - s) : Nat) : Int) = (t : Int)) (w : World) (hP : Pw w) :
    Calls Tryd.prog 28 #[.int .i64 h, .int .i64 mi, .int .i64 sc, .int .i64 N, .int .i64 (s : Int)] w fun e w' => ∃ v, e = .returned v ∧ Bts w' v (leB t (tsz s)) ∧ Fresh w w' := by
  have HT := Go.Lib.hid ht
  clear ht
  go_enter Tryd.func28, Tryd.ntmps28
  go_wp2_with (fail)
  refine (encTimeB_any s t h mi sc N hs h0 h1 m0 m1 s0 s1 hN0 hN1 HT.out _ hP).mono ?_
  rintro e w1 ⟨v, rfl, hr, hF⟩
  have HR := Go.Lib.hid hr.bts
  clear hr
  go_wp2
  go_ret
  exact ⟨v, rfl, HR.out, hF⟩

set_option maxRecDepth 100000 in
theorem zzDT2_any (n E s t : Nat) (hn : n < 1000000000) (hE : E / 86400 ≤ 3652058) (hs : s ≤ 7) (ht : (((E % 86400 : Nat) : Int) * 1000000000 + (n : Int)) / ((10 ^ (9 - s) : Nat) : Int) = (t : Int)) (w : World) (hP : Pw w) :
    Calls Tryd.prog 30 #[tv n E (.pointer none), .int .i64 (s : Int)] w fun e w' => ∃ v, e = .returned v ∧ Bts w' v (leB t (tsz s) ++ leB (E / 86400) 3) ∧ Fresh w w' := by
  have hF0 : Fresh w (w.alloc (.cells #[.int .u64 (n : Int), .int .i64 (E : Int), .pointer none] 51)) := (Kept.refl w _).alloc _
  have HT := Go.Lib.hid ht
  have HE := Go.Lib.hid hE
  have HP := Go.Lib.hid hP
  clear ht hE hP
  go_enter Tryd.func30, Tryd.ntmps30
  go_wp2_with (fail)
  refine (encDT2_any n E s t hn HE.out hs HT.out _ (HP.out.fresh hF0)).mono ?_
  rintro e w1 ⟨v, rfl, hr, hF⟩
  have HR := Go.Lib.hid hr.bts
  clear hr
  go_wp2
  go_ret
  exact ⟨v, rfl, HR.out, hF0.fresh hF⟩

set_option maxRecDepth 100000 in
theorem zzDTO_any (n E s t oo : Nat) (o : Int) (r : Option Addr) (hn : n < 1000000000) (hE : E / 86400 ≤ 3652058) (hs : s ≤ 7) (ho0 : -840 ≤ o) (ho1 : o ≤ 840) (hoo : (oo : Int) = o % 18446744073709551616) (ht : (((E % 86400 : Nat) : Int) * 1000000000 + (n : Int)) / ((10 ^ (9 - s) : Nat) : Int) = (t : Int)) (w : World) (hP : Pw w) (hA : At w r (o * 60)) :
    Calls Tryd.prog 32 #[tv n E (.pointer r), .int .i64 (s : Int)] w fun e w' => ∃ v, e = .returned v ∧ Bts w' v (leB t (tsz s) ++ leB (E / 86400) 3 ++ leB oo 2) ∧ Fresh w w' := by
  have hF0 : Fresh w (w.alloc (.cells #[.int .u64 (n : Int), .int .i64 (E : Int), .pointer r] 51)) := (Kept.refl w _).alloc _
  have HT := Go.Lib.hid ht
  have HE := Go.Lib.hid hE
  have HP := Go.Lib.hid hP
  have HA := Go.Lib.hid hA
  have HOO := Go.Lib.hid hoo
  clear ht hE hP hA hoo
  go_enter Tryd.func32, Tryd.ntmps32
  go_wp2_with (fail)
  refine (encDTO_any n E s t oo o r hn HE.out hs ho0 ho1 HOO.out HT.out _ (HP.out.fresh hF0) (HA.out.fresh hF0)).mono ?_
  rintro e w1 ⟨v, rfl, hr, hF⟩
  have HR := Go.Lib.hid hr.bts
  clear hr
  go_wp2
  go_ret
  exact ⟨v, rfl, HR.out, hF0.fresh hF⟩

set_option maxRecDepth 100000 in
theorem date1_any (d : Nat) (hd : d ≤ 3652058) (w : World) (p : Nat) (hc : w.cell? ⟨p, 0, none⟩ = some (.int .i64 (d : Int))) :
    Calls Tryd.prog 23 #[.pointer (some ⟨p, 0, none⟩)] w fun e w' => ∃ b, e = .returned b ∧ Bts w' b (leB d 3) ∧ Fresh w w' := by
  have hE : (d * 86400) / 86400 = d := by omega
  have hd1 : (d : Int) ≤ 3652058 := by omega
  have HD := Go.Lib.hid hd
  have HE := Go.Lib.hid hE
  clear hd hE
  go_enter Tryd.func23, Tryd.ntmps23
  go_wp2_with (fail)
  refine (moment_any (d : Int) 0 0 0 (d * 86400) (by omega) (by omega) (by decide) (by decide) (by decide) (by decide) (by have := HD.out; omega) (by decide) _).mono ?_
  rintro e w1 ⟨r, rfl, hA, hF, hr⟩
  obtain rfl := hr rfl
  go_wp2_with (fail)
  refine (zzDate_any 0 (d * 86400) (by decide) (by rw [HE.out]; exact HD.out) _).mono ?_
  rintro e w2 ⟨v, rfl, hb, hF2⟩
  rw [HE.out] at hb
  have HB := Go.Lib.hid hb
  clear hb
  go_wp2
  go_ret
  exact ⟨v, rfl, HB.out, hF.fresh hF2⟩
end Go.Proofs.YtahcaoenddapoaaDoor
