/- impl.EncodeDateTime, EncodeDateTim4. -/
import Derived.Test.YtahcaoenddapoaaEd4
import Derived.Test.YtahcaoenddapoaaTm6
namespace Go.Proofs.Ytahcaoenddapoaa
open Go.RowKit

set_option maxRecDepth 100000 in
theorem dwritten1_any (F : Nat) (caps : Array Value) (l : List Nat) (w : World) (p : Nat) (henter : ∀ W : World, (callFunc F caps).run Try.prog W = .ok (.enter F caps) W)
    (hc : w.cell? ⟨p, 0, none⟩ = some (.func (.func F) #[] caps)) (hcall : Calls Try.prog F caps w fun e w' => ∃ b, e = .returned b ∧ Bts w' b l ∧ Fresh w w') :
    Calls Try.prog 84 #[.pointer (some ⟨p, 0, none⟩)] w fun e w' => ∃ b, e = .returned (.tuple #[b, .nilIface]) ∧ Bts w' b l ∧ Fresh w w' := by
  go_enter Try.func84, Try.ntmps84
  go_wp2_with (fail)
  refine hcall.mono ?_
  rintro e w1 ⟨b, rfl, hb, hF⟩
  have HB := Go.Lib.hid hb
  clear hb
  go_wp2
  go_ret2
  exact ⟨b, rfl, HB.out, hF⟩

theorem enter84 (args : Array Value) (W : World) : (callFunc 84 args).run Try.prog W = .ok (.enter 84 args) W := run_enter Try.func84 (by kernel_rfl) (by kernel_rfl) args W
theorem enter58 (args : Array Value) (W : World) : (callFunc 58 args).run Try.prog W = .ok (.enter 58 args) W := run_enter Try.func58 (by kernel_rfl) (by kernel_rfl) args W
theorem enter62 (args : Array Value) (W : World) : (callFunc 62 args).run Try.prog W = .ok (.enter 62 args) W := run_enter Try.func62 (by kernel_rfl) (by kernel_rfl) args W

set_option maxRecDepth 100000 in
theorem dwritten_any (F : Nat) (caps : Array Value) (l : List Nat) (hl : l.length ≤ 140737488355328) (w : World) (henter : ∀ W : World, (callFunc F caps).run Try.prog W = .ok (.enter F caps) W)
    (hcall : ∀ W : World, Fresh w W → Calls Try.prog F caps W fun e w' => ∃ b, e = .returned b ∧ Bts w' b l ∧ Fresh W w') :
    Calls Try.prog 57 #[.func (.func F) #[] caps] w fun e w' => ∃ v, e = .returned v ∧ Row w.heap.size w' v l ∧ Fresh w w' := by
  have hmf : ∀ (fn : Fn) (first cap : Array Value) (w : World), (Instr.makeFunc fn first cap).run Try.prog w = .ok (.func fn first cap) w := fun _ _ _ _ => rfl
  have HC := Go.Lib.hid hcall
  clear hcall
  go_enter Try.func57, Try.ntmps57
  go_wp2_with (fail)
  have hF0 : Fresh w (w.alloc (.cells #[.func (.func F) #[] caps] 102)) := (Kept.refl w _).alloc _
  have hc0 : (w.alloc (.cells #[.func (.func F) #[] caps] 102)).cell? ⟨w.heap.size, 0, none⟩ = some (.func (.func F) #[] caps) := cell_of_row _ _ 0 _ _ _ (heap_alloc_new _ _)
  refine (made_any 84 _ l hl _ (enter84 _) (fun W hW => dwritten1_any F caps l W w.heap.size henter (hW.held hc0 (fun h => h)) (HC.out W (hF0.fresh hW)))).mono ?_
  rintro e w1 ⟨v, rfl, hr, hF⟩
  have HR := Go.Lib.hid (hr.lower (base' := w.heap.size) (by simp))
  have HF := Go.Lib.hid (hF0.fresh hF)
  clear hr hF hF0
  go_wp2
  go_ret
  exact ⟨v, rfl, HR.out, HF.out⟩

theorem utc_f (w : World) : Calls Try.prog 95 #[] w fun e w' => ∃ q, e = .returned (.pointer (some ⟨q, 0, none⟩)) ∧ w'.cell? ⟨q, 0, none⟩ = some (.bool true) ∧ w'.cell? ⟨q, 2, none⟩ = some (.slice none 0 0) ∧ Fresh w w' :=
  (utc_any w).mono fun e w' ⟨h1, h2⟩ => by
    subst h2
    exact ⟨w.heap.size, h1, utc_cell w 0, utc_cell w 2, (Kept.refl w _).alloc _⟩

set_option maxRecDepth 100000 in
theorem zzDateTime_any (n E k d x tm : Nat) (hk : k < 100) (hn : n = 10000000 * k) (hd : E / 86400 = d) (hE : d ≤ 3652058) (hE0 : 639905 ≤ d) (hx : (x : Int) = ((d : Int) - 693595) % 4294967296) (htm : tm = 300 * (E % 86400) + 3 * k) (w : World) :
    Calls Try.prog 59 #[tv n E (.pointer none)] w fun e w' => ∃ v, e = .returned v ∧ Bts w' v (leB x 4 ++ leB tm 4) ∧ Fresh w w' := by
  have hF0 : Fresh w (w.alloc (.cells #[.int .u64 (n : Int), .int .i64 (E : Int), .pointer none] 100)) := (Kept.refl w _).alloc _
  have HX := Go.Lib.hid hx
  have HT := Go.Lib.hid htm
  have HN := Go.Lib.hid hn
  have HD := Go.Lib.hid hd
  clear hx htm hn hd
  go_enter Try.func59, Try.ntmps59
  go_wp2_with (fail)
  refine (encDateTime_any n E k d x tm hk HN.out HD.out hE hE0 HX.out HT.out _).mono ?_
  rintro e w1 ⟨v, rfl, hr, hF⟩
  have HR := Go.Lib.hid hr.bts
  clear hr
  go_wp2
  go_ret
  exact ⟨v, rfl, HR.out, hF0.fresh hF⟩

set_option maxRecDepth 100000 in
theorem zzDateTim4_any (E x mn : Nat) (hE0 : 59926608000 ≤ E) (hx : (E - 59926608000) / 86400 = x) (hx1 : x < 65536) (hmn : E % 86400 / 60 = mn) (hE : E ≤ 400000000000) (w : World) :
    Calls Try.prog 63 #[tv0 E (.pointer none)] w fun e w' => ∃ v, e = .returned v ∧ Bts w' v (leB x 2 ++ leB mn 2) ∧ Fresh w w' := by
  have hT0 := T3.new w (.int .u64 0) (.int .i64 (E : Int)) (.pointer none) 100
  have hF0 : Fresh w (w.alloc (.cells #[.int .u64 0, .int .i64 (E : Int), .pointer none] 100)) := (Kept.refl w _).alloc _
  have hE0' := Go.Lib.hid hE0
  have HX := Go.Lib.hid hx
  have HM := Go.Lib.hid hmn
  have HE := Go.Lib.hid hE
  have HT := Go.Lib.hid hT0
  have HF := Go.Lib.hid hF0
  clear hE0 hx hmn hE hF0
  go_enter Try.func63, Try.ntmps63
  go_wp2_with (fail)
  generalize hW : w.alloc (.cells #[.int .u64 0, .int .i64 (E : Int), .pointer none] 100) = W at *
  have hb : ∃ b, w.heap.size = b := ⟨_, rfl⟩
  obtain ⟨c0, c1, c2⟩ := hT0
  go_region_held3 (fun w' => w'.cell? ⟨w.heap.size, 0, none⟩ = some (.int .u64 0) ∧ w'.cell? ⟨w.heap.size, 1, none⟩ = some (.int .i64 (E : Int)) ∧ w'.cell? ⟨w.heap.size, 2, none⟩ = some (.pointer none) ∧ Fresh W w')
    (first | exact TS.start HT.out | exact TS.same (by assumption) | exact TS.fresh (by assumption) (by assumption))
    (first
      | (go_at_call 95; refine (utc_f _).mono ?_; rintro e w' ⟨q, rfl, hq0, hq2, hF⟩)
      | (go_at_call 94; refine (encDateTim4_any E x mn q hE0'.out HX.out hx1 HM.out HE.out _ hq0 hq2).mono ?_; rintro e w' ⟨v, rfl, hr, hF2⟩; have HR := Go.Lib.hid hr.bts; clear hr))
  rename_i hA
  have HFF := Go.Lib.hid (HF.out.fresh hA.2.2.2)
  clear hA
  go_wp2
  go_ret
  exact ⟨v, rfl, HR.out, HFF.out⟩
end Go.Proofs.Ytahcaoenddapoaa
