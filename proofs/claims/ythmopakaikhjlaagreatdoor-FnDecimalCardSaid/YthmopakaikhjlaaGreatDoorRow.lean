/- FnDecimal: whatever the text of digits, the precision and the scale, the law answers true, and the arguments read as they did; io.EOF and math/big's listed variables are as the program's text lays them. -/
import Derived.Test.YthmopakaikhjlaaGreatDoorLaw
import Derived.Test.YthmopakaikhjlaaGreatDoorPost
import Derived.Test.YthmopakaikhjlaaGreatDoorTie
import Derived.Test.YthmopakaikhjlaaGreatDoorCards
import Derived.WalkKit
import Derived.ProofKit
import Derived.Handy
import Derived.Lay
import Derived.SevenTiedAt
import Derived.LaidLaws
import Derived.Stop.LaidErr
import Derived.Carry
namespace Go.Proofs.YthmopakaikhjlaaGreatDoor
open Go.ChangeShapes Go.WideShapes Go.ChangeAt Go.RowKit
open Go.WideMaps Go.WideElems
open Go.ChangeMaps (open_string shut_string)

theorem gEof : Tryz.prog.globalNamed "io.EOF" = some 2 := by kernel_rfl
theorem tEof : (Tryz.prog.globals[2]?).map (·.type) = some 47 := by kernel_rfl
theorem cells94 : Tryz.prog.cellsOf 94 = 1 := by kernel_rfl
theorem cells9 : Tryz.prog.cellsOf 9 = 1 := by kernel_rfl
theorem star : "*" ++ "errors.errorString" = "*errors.errorString" := by decide
theorem row92 (u : TypeId) (h : Tryz.prog.typeName? 3 u = some "*errors.errorString") : u = 92 :=
  typeName_ptr_named (nm := "errors.errorString") (by rw [star]; kernel_rfl) (by kernel_rfl) (by decide) u (by rw [star]; exact h)

theorem eof_of_laid {W : World} (h : laidMetH Tryz.prog Rows.fnDecimalRow.laid W) : ∃ eb, W.cell? ⟨2, 0, none⟩ = some (eofV eb) := by
  rw [MakeChecks.laidMetH_plain _ _ _ (by kernel_rfl)] at h
  obtain ⟨a1, s1, hv1, hc1, hs1, hz1⟩ := laid_sentinel h gEof tEof Tryz.underlying47 row92 Tryz.underlying92 Tryz.underlying94 rfl rfl Tryz.underlying9 cells94 cells9
  exact ⟨a1, by unfold eofV; simpa using World.var?_cell gEof hv1 0⟩

theorem fnDecimal_any (d : ByteArray) (p s : Int) (w : World) (hP : ∃ eb, w.cell? ⟨2, 0, none⟩ = some (eofV eb)) : Calls Tryz.prog 3 #[.string d, .int .i64 p, .int .i64 s] w fun e w' => e = .returned (.bool true) ∧ Fresh w w' := by
  obtain ⟨eb, he⟩ := hP
  by_cases hd : 2147483647 < (d.size : Int)
  · exact law_big d p s hd w
  · by_cases hp : p < 1 ∨ 38 < p
    · exact law_bad d p s hd hp w
    · obtain ⟨m, rfl⟩ : ∃ m : Nat, p = (m : Int) := ⟨p.toNat, by omega⟩
      by_cases hs : 0 ≤ s ∧ s ≤ (m : Int)
      · obtain ⟨k, rfl⟩ : ∃ k : Nat, s = (k : Int) := ⟨s.toNat, by omega⟩
        exact law_in d m k hd (by omega) (by omega) (by omega) eb w he
      · exact law_off d m s hd (by omega) (by omega) hs w

theorem own : ownKnob Tryz.prog.godebug = none := by kernel_rfl

set_option maxRecDepth 100000 in
theorem fnDecimal_lifted (os : Os) (started : os.Started) (H : Type) (enc : TypeId × Value → H) :
    ReturnsInHanded {} Tryz.checked os 3 .any (fun w args => (Rows.fnDecimalSpec.pre enc Tryz.prog Tryz.f3 [] false w args ∧ laidMetH Tryz.prog Rows.fnDecimalRow.laid w) ∧ sizedMet enc Tryz.prog Tryz.f3 (OpenSpec.ofChange Rows.fnDecimalSpec) false w args)
      (Rows.fnDecimalSpec.post enc Tryz.prog Tryz.f3 false true false false) := by
  refine returnsInHanded_of_change_and (C := Tryz.checked) (X := fun w _ => laidMetH Tryz.prog Rows.fnDecimalRow.laid w) (fun _ _ _ hh h => h.of_heap hh) own started (by kernel_rfl) Tryz.func3
    (ChangeSpec.witness_shaped (enc := enc) (C := Tryz.checked) (os := os) (X := fun w _ => laidMetH Tryz.prog Rows.fnDecimalRow.laid w) false (World.laidAll Tryz.prog os Rows.fnDecimalRow.laid) #[.string ⟨#[]⟩, .int .i64 0, .int .i64 0] 8 (World.laidAll_os _ _ _)
      (World.shaped_of_ZipB (by kernel_rfl) (by kernel_rfl)) (by kernel_rfl) (by kernel_rfl) (by kernel_rfl)
      (by rw [MakeChecks.laidMetH_plain _ _ _ (by kernel_rfl)]; exact laidMet_laidAll _ (by kernel_rfl) (by kernel_rfl))) ?_
  intro W base args ds gs before hval0 hW _ _ hL _
  have hval : ∀ (j : Nat) t v, Tryz.f3.params[j]? = some t → args[j]? = some v → Value.okWide Tryz.prog W .any base t v := hval0
  have hW' := hW
  obtain ⟨p, q, hA0, hV, rfl, _, _⟩ := hW
  have hA : DataW.TrodAll enc Tryz.prog W 0 (fun _ => true) true Tryz.f3.params.toList args.toList ds p := hA0
  rw [Tryz.params3] at hA hval
  obtain ⟨v0, v1, v2, d0, d1, d2, p0, p1, p2, rfl, rfl, rfl, h0, h1, h2⟩ := trodAll_three hA
  obtain ⟨rfl, rfl⟩ := trodVars_none hV
  obtain ⟨d, rfl, rfl, rfl, wd⟩ := open_string Tryz.underlying9 (hval 0 9 v0 rfl rfl) h0
  obtain ⟨pr, rfl, rfl, rfl, wp⟩ := open_int Tryz.underlying3 (hval 1 3 v1 rfl rfl) h1
  obtain ⟨s, rfl, rfl, rfl, ws⟩ := open_int Tryz.underlying3 (hval 2 3 v2 rfl rfl) h2
  clear hA0 hval0
  simp only [List.append_nil] at hW'
  refine (fnDecimal_any d pr s W (eof_of_laid hL)).mono fun e W' ⟨he, hF⟩ => ?_
  subst he
  exact ⟨_, rfl, post_of_below (pa := []) (pv := []) hW' (fun _ _ _ => trodAll_mk1 (shut_bool Tryz.underlying4 _))
    (fun sp _ => trodAll_mk3 (shut_string Tryz.underlying9 wd) (shut_int Tryz.underlying3 wp) (shut_int Tryz.underlying3 ws)) (fun _ _ => rfl) rfl
    hF.below' (ok_one (by kernel_rfl) rfl (okWide_bool_mk Tryz.underlying4 _))⟩

theorem fnDecimal_said : Rows.FnDecimalSaid :=
  OpenClaim.holds_of_wide 3 Tryz.f3 rfl rfl rfl rfl rfl rfl rfl ⟨rfl, rfl, rfl, rfl, rfl⟩ rfl rfl rfl rfl rfl (by kernel_rfl) Tryz.func3 (by kernel_rfl)
    (of_decide_eq_true (by kernel_rfl)) (by unfold Func.isWrapper; first | (rw [if_pos (by decide +kernel)]; kernel_rfl) | (rw [if_neg (by decide +kernel)]; exact ⟨rfl, rfl⟩))
    (fun os started H enc _ => fnDecimal_lifted os started H enc)

theorem fnDecimal_holds : Rows.FnDecimalCardSaid :=
  Claim7.holds_tied_plain_at .later [] [.sentinel, .sentinel, .sentinel, .data, .data, .data] true (true, "6c1a6da2f6deea9f46a76741295fdace1f34b21265ebbaf3f45724f9f8ff9c42") true fnDecimal_said (fun _ h => by cases h) (by kernel_rfl) (fun _ h => by cases h) fnDecimal_row_tie rfl ⟨rfl, rfl⟩ (by kernel_rfl) rfl
    (fun f fn hf hfn => by
      obtain rfl : f = 3 := Option.some.inj ((show Tryz.prog.funcNamed "mssqltds/laws.FnDecimal" = some 3 by kernel_rfl).symm.trans hf) |>.symm
      obtain rfl : fn = Tryz.f3 := (Option.some.inj (Tryz.func3.symm.trans hfn)).symm
      exact ⟨by kernel_rfl, fun j t ht => by
        rw [Tryz.params3] at ht
        have hm : t ∈ [9, 3, 3] := by simpa using Array.mem_of_getElem? ht
        have hall : ([9, 3, 3].all fun u => !Tryz.prog.wantsStandIn u) = true := by kernel_rfl
        exact (show Tryz.prog.wantsStandIn t = false by simpa using List.all_eq_true.1 hall t hm)⟩)
    (by kernel_rfl)
end Go.Proofs.YthmopakaikhjlaaGreatDoor
