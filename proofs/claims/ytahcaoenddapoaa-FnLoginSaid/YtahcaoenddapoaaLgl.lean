/- laws.FnLogin: whatever the login: true. -/
import Derived.Test.YtahcaoenddapoaaTld2
import Derived.Deep.MidRow
namespace Go.Proofs.Ytahcaoenddapoaa
open Go.RowKit

/-- A login's cells in a row. -/
def Lg.cl (x : Lg) : List Value := [.int .u32 x.t0, .int .u32 x.t1, .int .u32 x.t2, .int .u32 x.t3, .int .u32 x.t4, .int .i64 x.f1, .int .i64 x.f2, .int .i64 x.f3, .int .i64 x.f4, .int .i64 x.off, .int .u32 x.lcid, .string x.s0, .string x.s1, .string x.s2, .string x.s3, .string x.s4, .string x.s5, .string x.s6, .string x.s7]

theorem Bxd.range {lb : Nat} {x : Lg} {w : World} (h : Bxd lb x w) : w.rangeAt lb 0 x.cl := by
  intro j v hv
  rw [Nat.zero_add]
  match j, hv with
  | 0, hv => cases hv; exact h.c0
  | 1, hv => cases hv; exact h.c1
  | 2, hv => cases hv; exact h.c2
  | 3, hv => cases hv; exact h.c3
  | 4, hv => cases hv; exact h.c4
  | 5, hv => cases hv; exact h.c5
  | 6, hv => cases hv; exact h.c6
  | 7, hv => cases hv; exact h.c7
  | 8, hv => cases hv; exact h.c8
  | 9, hv => cases hv; exact h.c9
  | 10, hv => cases hv; exact h.c10
  | 11, hv => cases hv; exact h.c11
  | 12, hv => cases hv; exact h.c12
  | 13, hv => cases hv; exact h.c13
  | 14, hv => cases hv; exact h.c14
  | 15, hv => cases hv; exact h.c15
  | 16, hv => cases hv; exact h.c16
  | 17, hv => cases hv; exact h.c17
  | 18, hv => cases hv; exact h.c18
  | j + 19, hv => simp [Lg.cl] at hv

theorem row_of {P : Program} {T : TypeId} (h : (P.underlying T).any TypeDesc.isRow = true) : ∃ d, P.underlying T = some d ∧ d.isRow = true := by
  cases hu : P.underlying T with
  | none => rw [hu] at h; cases h
  | some d => exact ⟨d, rfl, by rw [hu] at h; simpa using h⟩
theorem under36 : ∃ d, Try.prog.underlying 36 = some d ∧ d.isRow = true := row_of (by kernel_rfl)
theorem under38 : ∃ d, Try.prog.underlying 38 = some d ∧ d.isRow = true := row_of (by kernel_rfl)
theorem size36 : (Try.prog.info? 36).map (·.size) = some 19 := by kernel_rfl
theorem size38 : (Try.prog.info? 38).map (·.size) = some 19 := by kernel_rfl

theorem build38 (x : Lg) (W : World) : (Instr.build 38 #[(0, .int .u32 x.t0), (1, .int .u32 x.t1), (2, .int .u32 x.t2), (3, .int .u32 x.t3), (4, .int .u32 x.t4), (5, .int .i64 x.f1), (6, .int .i64 x.f2), (7, .int .i64 x.f3), (8, .int .i64 x.f4), (9, .int .i64 x.off), (10, .int .u32 x.lcid), (11, .string x.s0), (12, .string x.s1), (13, .string x.s2), (14, .string x.s3), (15, .string x.s4), (16, .string x.s5), (17, .string x.s6), (18, .string x.s7)]).run Try.prog W = .ok (.agg x.cl.toArray) W := by kernel_rfl
theorem wpList_build {P : Program} {ops : Array Oper} {rest : List Oper} {op : Oper} {a : Act} {w : World} {Q : Exit → Act → World → Prop} (hgd : op.guard = none) (T : TypeId) (parts : Array (Nat × Operand)) (ho : op.op = .build T parts)
    (pv : Array (Nat × Value)) (hp : (parts.map fun p => (p.1, a.eval p.2)) = pv) (v : Value) (hb : ∀ W, (Instr.build T pv).run P W = .ok v W) (h : wpList P ops Q rest (a.put op.dst v) w) : wpList P ops Q (op :: rest) a w :=
  wpList_plain hgd fun K hK => by
    subst hp
    have e : (execOp a.eval op).run P w = .ok (.value v) w := by
      unfold execOp
      rw [ho]
      show (Sem.run P (do pure (Next.value (← Instr.build T _))) w) = _
      rw [Sem.run_bind, hb w]
      rfl
    show op.upon P a K Q ((execOp a.eval op).run P w)
    rw [e]
    exact hK _ _ h
/-- Here the walk stops. -/
def Halt (p : Prop) : Prop := p
theorem halt_store {P : Program} {ops : Array Oper} {rest : List Oper} {op : Oper} {a : Act} {w : World} {Q : Exit → Act → World → Prop} {T : TypeId} {x y : Operand} (_ : op.op = .store T x y) (h : Halt (wpList P ops Q (op :: rest) a w)) : wpList P ops Q (op :: rest) a w := h
theorem halt_load {P : Program} {ops : Array Oper} {rest : List Oper} {op : Oper} {a : Act} {w : World} {Q : Exit → Act → World → Prop} {T : TypeId} {x : Operand} (_ : op.op = .load T x) (h : Halt (wpList P ops Q (op :: rest) a w)) : wpList P ops Q (op :: rest) a w := h
theorem size38b (x : Lg) : (Try.prog.info? 38).map (·.size) = some x.cl.toArray.size := by kernel_rfl
theorem ones (x : Lg) : x.cl.toArray.all (·.oneCell') = true := by kernel_rfl
theorem there19 (x : Lg) (w : World) (cs : Array Value) (hn : cs.size = x.cl.toArray.size) (T : TypeId) : (w.alloc (.cells cs T)).there w.heap.size 0 x.cl.toArray.size := by rw [← hn]; exact there_new w cs T

theorem wpList_load_wanted {P : Program} {ops : Array Oper} {rest : List Oper} {op : Oper} {a : Act} {w : World} {Q : Exit → Act → World → Prop} (hw : Region.wanted op (yielded ops a.tmps) = true) (ty : TypeId) (x : Operand) (ho : op.op = .load ty x)
    (b o : Nat) (hx : a.eval x = .pointer (some ⟨b, o, none⟩)) (cs : List Value) (d : TypeDesc) (hc : w.rangeAt b o cs)
    (hu : P.underlying ty = some d) (hd : d.isRow = true) (hi : (P.info? ty).map (·.size) = some cs.length)
    (h : wpList P ops Q rest (a.put op.dst (.agg cs.toArray)) w) : wpList P ops Q (op :: rest) a w :=
  wpList_step fun K hK => by
    rw [if_pos hw]
    exact wp_load_mid ty x ho b o hx cs d hc hu hd hi (hK _ _ h)
theorem tell_of {x : Lg} {T : List Nat} (hT : IsPay x T) (hx : x.proper) (hw : x.wf) : Tell T x := by
  obtain ⟨h⟩ := hT
  subst h
  exact tell_pay x hx hw
theorem wpList_stored {P : Program} {ops : Array Oper} {rest : List Oper} {a : Act} {Q : Exit → Act → World → Prop} (x : Lg) (w : World) (cs : Array Value) (hn : cs.size = x.cl.toArray.size) (T : TypeId)
    (h : ∀ w2, w2.rangeAt w.heap.size 0 x.cl → Fresh w w2 → wpList P ops Q rest a w2) : wpList P ops Q rest a ((w.alloc (.cells cs T)).setCells w.heap.size 0 x.cl.toArray.toList) := by
  refine h _ (World.rangeAt_setCells_same _ _ 0 _ (there19 x w cs hn T)) ?_
  exact (((Kept.refl w (fun _ => False)).alloc (.cells cs T)).trans (setCells_kept w.heap.size x.cl.toArray.toList 0 _) (fun k hk e => by omega))
theorem rangeAt_fresh {w w' : World} {b : Nat} {cs : List Value} (h : w.rangeAt b 0 cs) (hk : Fresh w w') : w'.rangeAt b 0 cs := fun j v hv => hk.held (h j v hv) (fun h => h)

set_option maxRecDepth 100000 in
set_option maxHeartbeats 4000000 in
theorem lawLogin_any (x : Lg) (hwf : x.wf) (w : World) : Calls Try.prog 6 #[x.val] w fun e w' => e = .returned (.bool true) ∧ Fresh w w' := by
  have hund : undef = Value.tuple #[] := rfl
  have HWF := Go.Lib.hid hwf
  clear hwf
  obtain ⟨d36, hu36, hd36⟩ := under36
  obtain ⟨d38, hu38, hd38⟩ := under38
  have HU36 := Go.Lib.hid hu36
  have HU38 := Go.Lib.hid hu38
  obtain ⟨wb, hwb, hBx, hFb, hsb⟩ := bxd_new x w 36
  have HWB := Go.Lib.hid hwb
  have HBX := Go.Lib.hid hBx
  have HFB := Go.Lib.hid hFb
  clear hwb hBx hFb hsb hu36 hu38
  go_enter Try.func6, Try.ntmps6
  go_upto_region 1 with (fail)
  rw [HWB.out]
  refine wp_region_lit (wpList_load_mid rfl 36 (.tmp 1) rfl w.heap.size 0 rfl x.cl d36 HBX.out.range HU36.out hd36 size36 ?_)
  go_wp2_with (fail)
  refine (fits3_any x _).mono ?_
  rintro e w1 ⟨⟨b1, rfl, hb1⟩, hF1⟩
  have HF1 := Go.Lib.hid (HFB.out.fresh hF1)
  have HB1 := Go.Lib.hid (HBX.out.fresh hF1)
  clear hF1
  cases b1 with
  | false =>
    clear hb1
    go_wp2
    go_ret
    exact ⟨rfl, HF1.out⟩
  | true =>
    have HFI := Go.Lib.hid (hb1 rfl)
    clear hb1
    obtain ⟨c0, c1, c2, c3, c4, c5, c6, c7, c8, c9, c10, c11, c12, c13, c14, c15, c16, c17, c18⟩ := HB1.out
    go_wp2_with (first | (with_reducible refine wpList_build rfl 38 _ rfl #[(0, .int .u32 x.t0), (1, .int .u32 x.t1), (2, .int .u32 x.t2), (3, .int .u32 x.t3), (4, .int .u32 x.t4), (5, .int .i64 x.f1), (6, .int .i64 x.f2), (7, .int .i64 x.f3), (8, .int .i64 x.f4), (9, .int .i64 x.off), (10, .int .u32 x.lcid), (11, .string x.s0), (12, .string x.s1), (13, .string x.s2), (14, .string x.s3), (15, .string x.s4), (16, .string x.s5), (17, .string x.s6), (18, .string x.s7)] (by kernel_rfl) _ (build38 x) ?_) | (with_reducible refine halt_store (T := 38) (x := .tmp 3) (y := .tmp 47) rfl ?_))
    unfold Halt
    refine wpList_store_mid rfl 38 (.tmp 3) (.tmp 47) rfl w1.heap.size 0 x.cl.toArray (by kernel_rfl) (by kernel_rfl) ?_ (size38b x) (ones x) ?_
    · exact there19 x _ _ (by kernel_rfl) _
    refine wpList_stored x w1 _ (by kernel_rfl) _ (fun w2 hR2 hF2 => ?_)
    have HR2 := Go.Lib.hid hR2
    have HF2 := Go.Lib.hid (HF1.out.fresh hF2)
    have HB2 := Go.Lib.hid (HB1.out.fresh hF2)
    generalize w1.heap.size = lb2 at *
    clear hR2 hF2 c0 c1 c2 c3 c4 c5 c6 c7 c8 c9 c10 c11 c12 c13 c14 c15 c16 c17 c18
    go_wp2_with ((with_reducible refine halt_load (T := 38) (x := .tmp 3) rfl ?_))
    unfold Halt
    refine wpList_load_mid rfl 38 (.tmp 3) rfl lb2 0 (by kernel_rfl) x.cl d38 HR2.out HU38.out hd38 size38 ?_
    go_wp2_with (fail)
    refine (proper_any x HFI.out _).mono ?_
    rintro e w3 ⟨⟨b3, rfl, hb3⟩, hF3⟩
    have HR3 := Go.Lib.hid (rangeAt_fresh HR2.out hF3)
    have HF3 := Go.Lib.hid (HF2.out.fresh hF3)
    have HB3 := Go.Lib.hid (HB2.out.fresh hF3)
    clear hF3
    cases b3 with
    | false =>
      clear hb3
      go_wp2_with (fail)
      refine (works_any _).mono ?_
      rintro e w4 ⟨rfl, hF4⟩
      have HF4 := Go.Lib.hid (HF3.out.fresh hF4)
      clear hF4
      go_wp2
      go_ret
      exact ⟨rfl, HF4.out⟩
    | true =>
      have HX := Go.Lib.hid (hb3 rfl)
      clear hb3
      obtain ⟨T, hT⟩ : ∃ T, IsPay x T := ⟨x.pay, ⟨rfl⟩⟩
      go_wp2_with ((with_reducible refine halt_load (T := 36) (x := .tmp 1) rfl ?_))
      unfold Halt
      refine wpList_load_mid rfl 36 (.tmp 1) rfl w.heap.size 0 (by kernel_rfl) x.cl d36 HB3.out.range HU36.out hd36 size36 ?_
      go_wp2_with (fail)
      refine (formatLogin_any x HX.out HWF.out HFI.out T hT _).mono ?_
      rintro e w5 ⟨v5, rfl, hb5, hF5⟩
      obtain ⟨A5, c5, rfl, _⟩ := hb5.slice
      obtain ⟨nT, hnT⟩ : ∃ n, T.length = n := ⟨_, rfl⟩
      rw [hnT] at hb5
      rw [hnT]
      have HBB := Go.Lib.hid hb5
      have HR5 := Go.Lib.hid (rangeAt_fresh HR3.out hF5)
      have HF5 := Go.Lib.hid (HF3.out.fresh hF5)
      clear hb5 hF5
      clear hnT
      go_wp2_with ((with_reducible refine halt_load (T := 38) (x := .tmp 3) rfl ?_))
      unfold Halt
      refine wpList_load_wanted (by kernel_rfl) 38 (.tmp 3) rfl lb2 0 (by kernel_rfl) x.cl d38 HR5.out HU38.out hd38 size38 ?_
      have HTL := Go.Lib.hid (tell_of hT HX.out HWF.out)
      go_wp2_with (fail)
      refine (told_any x HFI.out HWF.out T HTL.out _ _ _ _ HBB.out).mono ?_
      rintro e w6 ⟨rfl, hF6⟩
      have HF6 := Go.Lib.hid (HF5.out.fresh hF6)
      clear hF6
      go_wp2_with (fail)
      refine (works_any _).mono ?_
      rintro e w7 ⟨rfl, hF7⟩
      have HF7 := Go.Lib.hid (HF6.out.fresh hF7)
      clear hF7
      go_wp2
      go_ret
      exact ⟨rfl, HF7.out⟩
end Go.Proofs.Ytahcaoenddapoaa
