/- FnLogin: for every login the law answers true, and what came in reads as it did. No condition. -/
import Derived.Test.YtahcaoenddapoaaLgl
import Derived.Test.YtahcaoenddapoaaPost
import Derived.Deep.Fields
import Derived.Carry
import Derived.ChangeSlices
namespace Go.Proofs.Ytahcaoenddapoaa
open Go.ChangeShapes Go.WideShapes Go.ChangeAt Go.RowKit Go.Deep
open Go.WideMaps Go.WideElems

theorem Try.own : ownKnob Try.prog.godebug = none := by kernel_rfl
theorem Try.laidOut : laidOutB Try.prog = true := by kernel_rfl

theorem wf_u32 {n : Int} (h : (Lit.int .u32 n).wf = true) : 0 ≤ n ∧ n < 4294967296 := by
  have e1 : IntKind.u32.min = 0 := rfl
  have e2 : IntKind.u32.max = 4294967295 := rfl
  simp [Lit.wf, e1, e2] at h
  omega

/-- The fields of a login's type. -/
noncomputable def fs36 : Array Field := match Try.prog.underlying 36 with
  | some (.struct fs) => fs
  | _ => #[]
theorem struct36 : Try.prog.underlying 36 = some (.struct fs36) := by kernel_rfl
theorem one36 : oneCellFields Try.prog fs36 = true := by kernel_rfl
theorem cells36 : Try.prog.cellsOf 36 = 19 := by kernel_rfl
theorem fsize36 : fs36.size = 19 := by kernel_rfl
noncomputable def fty (i : Nat) : TypeId := ((fs36[i]?).map (·.type)).getD 0
theorem fk0 : Try.prog.underlying (fty 0) = some (.int .u32) := by kernel_rfl
theorem fk1 : Try.prog.underlying (fty 1) = some (.int .u32) := by kernel_rfl
theorem fk2 : Try.prog.underlying (fty 2) = some (.int .u32) := by kernel_rfl
theorem fk3 : Try.prog.underlying (fty 3) = some (.int .u32) := by kernel_rfl
theorem fk4 : Try.prog.underlying (fty 4) = some (.int .u32) := by kernel_rfl
theorem fk5 : Try.prog.underlying (fty 5) = some (.int .i64) := by kernel_rfl
theorem fk6 : Try.prog.underlying (fty 6) = some (.int .i64) := by kernel_rfl
theorem fk7 : Try.prog.underlying (fty 7) = some (.int .i64) := by kernel_rfl
theorem fk8 : Try.prog.underlying (fty 8) = some (.int .i64) := by kernel_rfl
theorem fk9 : Try.prog.underlying (fty 9) = some (.int .i64) := by kernel_rfl
theorem fk10 : Try.prog.underlying (fty 10) = some (.int .u32) := by kernel_rfl
theorem fk11 : Try.prog.underlying (fty 11) = some .string := by kernel_rfl
theorem fk12 : Try.prog.underlying (fty 12) = some .string := by kernel_rfl
theorem fk13 : Try.prog.underlying (fty 13) = some .string := by kernel_rfl
theorem fk14 : Try.prog.underlying (fty 14) = some .string := by kernel_rfl
theorem fk15 : Try.prog.underlying (fty 15) = some .string := by kernel_rfl
theorem fk16 : Try.prog.underlying (fty 16) = some .string := by kernel_rfl
theorem fk17 : Try.prog.underlying (fty 17) = some .string := by kernel_rfl
theorem fk18 : Try.prog.underlying (fty 18) = some .string := by kernel_rfl

set_option maxRecDepth 100000 in
theorem open36 {H : Type} {enc : TypeId × Value → H} {w : World} {base b0 : Nat} {r : Reach} {spare : Nat → Bool} {held : Bool} {v : Value} {d : DataW H} {p : List MemPlace} (hv : Value.okWide Try.prog w r b0 36 v) (h : DataW.Trod enc Try.prog w base spare held 36 v d p) :
    ∃ x : Lg, v = x.val ∧ x.wf := by
  obtain ⟨cs, rfl, hsz⟩ := okWide_struct struct36 hv
  rw [cells36] at hsz
  obtain ⟨fuel, hf⟩ := h
  obtain ⟨xs, n, _, hx, hcl, hlen, hg⟩ := DataW.trod_struct struct36 hf
  have hfield : ∀ i (hi : i < 19), ∃ y, DataW.trod enc Try.prog w base spare held n (fty i) [cs.toList[i]'(by simp; omega)] = some y := by
    intro i hi
    have hi' : i < fs36.size := by rw [fsize36]; exact hi
    have hfi : fs36[i]? = some fs36[i] := Array.getElem?_eq_getElem hi'
    obtain ⟨o1, k1⟩ := hone_of one36 i _ hfi
    have h1 := hg i _ hfi
    rw [o1, k1] at h1
    have hty : fs36[i].type = fty i := by
      unfold fty
      rw [hfi]
      rfl
    rw [hty] at h1
    have hone' : (((Value.agg cs).cells.toList).drop i).take 1 = [cs.toList[i]'(by simp; omega)] := by
      show ((cs.toList).drop i).take 1 = _
      rw [List.drop_eq_getElem_cons (by simp; omega)]
      rfl
    have h2 : ∃ y, xs[i]? = some y := ⟨xs[i]'(by omega), List.getElem?_eq_getElem (by omega)⟩
    obtain ⟨y, hy⟩ := h2
    rw [hy] at h1
    refine ⟨y, ?_⟩
    rw [← hone']
    exact h1
  obtain ⟨l⟩ := cs
  match l, hsz, hfield with
  | [c0, c1, c2, c3, c4, c5, c6, c7, c8, c9, c10, c11, c12, c13, c14, c15, c16, c17, c18], _, hfield =>
    obtain ⟨y0, hy0⟩ := hfield 0 (by omega)
    obtain ⟨z0, e0, _, w0⟩ := DataW.trod_int fk0 hy0
    obtain rfl : c0 = .int .u32 z0 := by simpa using e0
    obtain ⟨y1, hy1⟩ := hfield 1 (by omega)
    obtain ⟨z1, e1, _, w1⟩ := DataW.trod_int fk1 hy1
    obtain rfl : c1 = .int .u32 z1 := by simpa using e1
    obtain ⟨y2, hy2⟩ := hfield 2 (by omega)
    obtain ⟨z2, e2, _, w2⟩ := DataW.trod_int fk2 hy2
    obtain rfl : c2 = .int .u32 z2 := by simpa using e2
    obtain ⟨y3, hy3⟩ := hfield 3 (by omega)
    obtain ⟨z3, e3, _, w3⟩ := DataW.trod_int fk3 hy3
    obtain rfl : c3 = .int .u32 z3 := by simpa using e3
    obtain ⟨y4, hy4⟩ := hfield 4 (by omega)
    obtain ⟨z4, e4, _, w4⟩ := DataW.trod_int fk4 hy4
    obtain rfl : c4 = .int .u32 z4 := by simpa using e4
    obtain ⟨y5, hy5⟩ := hfield 5 (by omega)
    obtain ⟨z5, e5, _, w5⟩ := DataW.trod_int fk5 hy5
    obtain rfl : c5 = .int .i64 z5 := by simpa using e5
    obtain ⟨y6, hy6⟩ := hfield 6 (by omega)
    obtain ⟨z6, e6, _, w6⟩ := DataW.trod_int fk6 hy6
    obtain rfl : c6 = .int .i64 z6 := by simpa using e6
    obtain ⟨y7, hy7⟩ := hfield 7 (by omega)
    obtain ⟨z7, e7, _, w7⟩ := DataW.trod_int fk7 hy7
    obtain rfl : c7 = .int .i64 z7 := by simpa using e7
    obtain ⟨y8, hy8⟩ := hfield 8 (by omega)
    obtain ⟨z8, e8, _, w8⟩ := DataW.trod_int fk8 hy8
    obtain rfl : c8 = .int .i64 z8 := by simpa using e8
    obtain ⟨y9, hy9⟩ := hfield 9 (by omega)
    obtain ⟨z9, e9, _, w9⟩ := DataW.trod_int fk9 hy9
    obtain rfl : c9 = .int .i64 z9 := by simpa using e9
    obtain ⟨y10, hy10⟩ := hfield 10 (by omega)
    obtain ⟨z10, e10, _, w10⟩ := DataW.trod_int fk10 hy10
    obtain rfl : c10 = .int .u32 z10 := by simpa using e10
    obtain ⟨y11, hy11⟩ := hfield 11 (by omega)
    obtain ⟨z11, e11, _, _⟩ := DataW.trod_string fk11 hy11
    obtain rfl : c11 = .string z11 := by simpa using e11
    obtain ⟨y12, hy12⟩ := hfield 12 (by omega)
    obtain ⟨z12, e12, _, _⟩ := DataW.trod_string fk12 hy12
    obtain rfl : c12 = .string z12 := by simpa using e12
    obtain ⟨y13, hy13⟩ := hfield 13 (by omega)
    obtain ⟨z13, e13, _, _⟩ := DataW.trod_string fk13 hy13
    obtain rfl : c13 = .string z13 := by simpa using e13
    obtain ⟨y14, hy14⟩ := hfield 14 (by omega)
    obtain ⟨z14, e14, _, _⟩ := DataW.trod_string fk14 hy14
    obtain rfl : c14 = .string z14 := by simpa using e14
    obtain ⟨y15, hy15⟩ := hfield 15 (by omega)
    obtain ⟨z15, e15, _, _⟩ := DataW.trod_string fk15 hy15
    obtain rfl : c15 = .string z15 := by simpa using e15
    obtain ⟨y16, hy16⟩ := hfield 16 (by omega)
    obtain ⟨z16, e16, _, _⟩ := DataW.trod_string fk16 hy16
    obtain rfl : c16 = .string z16 := by simpa using e16
    obtain ⟨y17, hy17⟩ := hfield 17 (by omega)
    obtain ⟨z17, e17, _, _⟩ := DataW.trod_string fk17 hy17
    obtain rfl : c17 = .string z17 := by simpa using e17
    obtain ⟨y18, hy18⟩ := hfield 18 (by omega)
    obtain ⟨z18, e18, _, _⟩ := DataW.trod_string fk18 hy18
    obtain rfl : c18 = .string z18 := by simpa using e18
    exact ⟨⟨z0, z1, z2, z3, z4, z5, z6, z7, z8, z9, z10, z11, z12, z13, z14, z15, z16, z17, z18⟩, rfl, wf_u32 w0, wf_u32 w1, wf_u32 w2, wf_u32 w3, wf_u32 w4, wf_u32 w10⟩

set_option maxRecDepth 100000 in
theorem fnLogin_lifted (os : Os) (started : os.Started) (H : Type) (enc : TypeId × Value → H) :
    ReturnsInHanded {} Try.checked os 6 .any (Rows.fnLoginSpec.pre6 enc Try.prog Try.f6 Rows.fnLoginRow.domain false) (Rows.fnLoginSpec.post enc Try.prog Try.f6 false true false false) := by
  refine returnsInHanded_of_change (C := Try.checked) Try.own started (by kernel_rfl) Try.func6
    (ChangeSpec.witness6 (enc := enc) (C := Try.checked) false ⟨#[], #[.agg #[.int .u32 0, .int .u32 0, .int .u32 0, .int .u32 0, .int .u32 0, .int .i64 0, .int .i64 0, .int .i64 0, .int .i64 0, .int .i64 0, .int .u32 0, .string ⟨#[]⟩, .string ⟨#[]⟩, .string ⟨#[]⟩, .string ⟨#[]⟩, .string ⟨#[]⟩, .string ⟨#[]⟩, .string ⟨#[]⟩, .string ⟨#[]⟩]], []⟩ 8 (by kernel_rfl) (by kernel_rfl) (by kernel_rfl) (by kernel_rfl)) ?_
  intro W base args ds gs before hval0 hW hcnd _
  have hval : ∀ (j : Nat) t v, Try.f6.params[j]? = some t → args[j]? = some v → Value.okWide Try.prog W .any base t v := hval0
  have hW' := hW
  obtain ⟨p, q, hA0, hV, rfl, hfz, hnd⟩ := hW
  have hA : DataW.TrodAll enc Try.prog W 0 (fun _ => true) true Try.f6.params.toList args.toList ds p := hA0
  rw [Try.params6] at hA hval
  obtain ⟨v0, d0, rfl, rfl, t0⟩ := trodAll_one hA
  obtain ⟨rfl, rfl⟩ := trodVars_none hV
  obtain ⟨x, rfl, hwf⟩ := open36 (hval 0 36 v0 rfl rfl) t0
  have hlt : ∀ y ∈ p, y.block < W.heap.size := fun y hy => hW'.lt y (by simpa using hy)
  clear hA0 hval0
  simp only [List.append_nil] at hW'
  refine (lawLogin_any x hwf W).mono fun e W' ⟨he, hF⟩ => ?_
  subst he
  have hb := hF.below'
  exact ⟨_, rfl, post_of_below (pa := p) (pv := []) hW' (fun _ _ _ => trodAll_mk1 (shut_bool Try.underlying4 _))
    (fun sp hsp => trodAll_mk1 (Trod_stays Try.laidOut (by kernel_rfl) (of_decide_eq_true (by kernel_rfl)) t0 (fun y hy => hb.same (hlt y hy)) (fun y hy => hsp y hy))) (fun _ _ => rfl) (by simp)
    hb (ok_one (by kernel_rfl) rfl (okWide_bool_mk Try.underlying4 _))⟩

theorem fnLogin_holds : Rows.FnLoginSaid :=
  OpenClaim.holds_of_wide 6 Try.f6 rfl rfl rfl rfl rfl rfl rfl ⟨rfl, rfl, rfl, rfl, rfl⟩ rfl rfl rfl rfl rfl (by kernel_rfl) Try.func6 (by kernel_rfl)
    (of_decide_eq_true (by kernel_rfl)) (by unfold Func.isWrapper; first | (rw [if_pos (by decide +kernel)]; kernel_rfl) | (rw [if_neg (by decide +kernel)]; exact ⟨rfl, rfl⟩))
    (fun os started H enc _ => fnLogin_lifted os started H enc)
end Go.Proofs.Ytahcaoenddapoaa
