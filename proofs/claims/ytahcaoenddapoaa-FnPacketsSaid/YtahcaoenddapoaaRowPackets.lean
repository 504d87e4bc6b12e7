/- FnPackets: for every kind, size and data, the law answers true, and what came in reads as it did. No condition. -/
import Derived.Test.YtahcaoenddapoaaLawPackets
import Derived.Test.YtahcaoenddapoaaPost
import Derived.Carry
import Derived.ChangeSlices
namespace Go.Proofs.Ytahcaoenddapoaa
open Go.ChangeShapes Go.WideShapes Go.ChangeAt Go.RowKit
open Go.WideMaps Go.WideElems

theorem Try.own : ownKnob Try.prog.godebug = none := by kernel_rfl
theorem Try.laidOut : laidOutB Try.prog = true := by kernel_rfl

theorem wf_byte {n : Int} (h : (Lit.int .u8 n).wf = true) : 0 ≤ n ∧ n < 256 := by
  have e1 : IntKind.u8.min = 0 := rfl
  have e2 : IntKind.u8.max = 255 := rfl
  simp [Lit.wf, e1, e2] at h
  omega

/-- A slice of bytes that came in reads as some bytes. -/
theorem bytes_in {H : Type} {enc : TypeId × Value → H} {W : World} {A : Option Addr} {n c : Nat} {d : DataW H} {p : List MemPlace} (h : DataW.Trod enc Try.prog W 0 (fun _ => true) true 24 (.slice A n c) d p) :
    n ≠ 0 → ∃ T : List Nat, Bts W (.slice A n c) T ∧ ∀ b ∈ T, b < 256 := by
  intro hn0
  obtain ⟨fuel, hf⟩ := h
  rcases open_ints Try.underlying24 Try.underlying5 (by kernel_rfl) hf with ⟨h0, _⟩ | ⟨a, len, cap, zs, h0, _, hl, hm, hz, _, hcell, hw⟩
  · simp [Value.cells] at h0
    exact absurd h0.2.1 hn0
  · simp [Value.cells] at h0
    obtain ⟨rfl, rfl, rfl⟩ := h0
    have hzl : zs.length = c := by simpa using hz
    have g0 := hcell 0 (by omega)
    obtain ⟨b, off, spot⟩ := a
    have hspot : spot = none := by simpa [Addr.add] using World.cell?_spot g0
    subst hspot
    have hlt : b < W.heap.size := by
      have := World.block_lt_of_cell? W _ g0
      simpa [Addr.add] using this
    refine ⟨(zs.take n).map Int.toNat, ⟨some ⟨b, off, none⟩, c, by simp; omega, by simp; omega, hm, fun h => (by cases h), fun ad hA => ?_⟩, ?_⟩
    · cases hA
      refine ⟨b, off, rfl, hlt, fun j hj => ?_⟩
      have hj' : j < n := by simp at hj; omega
      have hadd : (⟨b, off, none⟩ : Addr).add j = ⟨b, off + j, none⟩ := by unfold Addr.add; split <;> simp_all
      have hg := hcell j (by omega)
      rw [hadd] at hg
      rw [hg]
      have e1 : zs.getD j 0 = zs[j]'(by omega) := by simp [List.getD, show j < zs.length by omega]
      have hwj := wf_byte (hw (zs[j]'(by omega)) (List.getElem_mem _))
      rw [e1]
      simp
      omega
    · intro b' hb'
      obtain ⟨z, hz', rfl⟩ := List.mem_map.1 hb'
      have := wf_byte (hw z (List.mem_of_mem_take hz'))
      omega

set_option maxRecDepth 100000 in
theorem fnPackets_lifted (os : Os) (started : os.Started) (H : Type) (enc : TypeId × Value → H) :
    ReturnsInHanded {} Try.checked os 5 .any (Rows.fnPacketsSpec.pre6 enc Try.prog Try.f5 Rows.fnPacketsRow.domain false) (Rows.fnPacketsSpec.post enc Try.prog Try.f5 false true false false) := by
  refine returnsInHanded_of_change (C := Try.checked) Try.own started (by kernel_rfl) Try.func5
    (ChangeSpec.witness6 (enc := enc) (C := Try.checked) false ⟨#[], #[.int .i64 0, .int .i64 0, .slice none 0 0], []⟩ 8 (by kernel_rfl) (by kernel_rfl) (by kernel_rfl) (by kernel_rfl)) ?_
  intro W base args ds gs before hval0 hW hcnd _
  have hval : ∀ (j : Nat) t v, Try.f5.params[j]? = some t → args[j]? = some v → Value.okWide Try.prog W .any base t v := hval0
  have hW' := hW
  obtain ⟨p, q, hA0, hV, rfl, hfz, hnd⟩ := hW
  have hA : DataW.TrodAll enc Try.prog W 0 (fun _ => true) true Try.f5.params.toList args.toList ds p := hA0
  rw [Try.params5] at hA hval
  obtain ⟨v0, v1, v2, d0, d1, d2, p0, p1, p2, rfl, rfl, rfl, t0, t1, t2⟩ := trodAll_three hA
  obtain ⟨rfl, rfl⟩ := trodVars_none hV
  obtain ⟨K, rfl, rfl, rfl, wK⟩ := open_int Try.underlying3 (hval 0 3 v0 rfl rfl) t0
  obtain ⟨Z, rfl, rfl, rfl, wZ⟩ := open_int Try.underlying3 (hval 1 3 v1 rfl rfl) t1
  obtain ⟨A, n, c, rfl⟩ := okWide_slice Try.underlying24 (hval 2 24 v2 rfl rfl)
  have hlt : ∀ x ∈ p2, x.block < W.heap.size := fun x hx => hW'.lt x (by simpa using hx)
  clear hA0 hval0
  simp only [List.append_nil, List.nil_append] at hW'
  refine (fnPackets_any K Z A n c W (bytes_in t2)).mono fun e W' ⟨he, hF⟩ => ?_
  subst he
  have hb := hF.below'
  exact ⟨_, rfl, post_of_below (pa := p2) (pv := []) hW' (fun _ _ _ => trodAll_mk1 (shut_bool Try.underlying4 _))
    (fun sp hsp => by
      have h3 := Trod_stays Try.laidOut (by kernel_rfl) (of_decide_eq_true (by kernel_rfl)) t2 (fun x hx => hb.same (hlt x hx)) (fun x hx => hsp x hx)
      have := trodAll_mk3 (shut_int (enc := enc) (w := W') (base := 0) (spare := sp) (held := true) Try.underlying3 wK) (shut_int (enc := enc) (w := W') (base := 0) (spare := sp) (held := true) Try.underlying3 wZ) h3
      simp only [List.nil_append] at this
      exact this) (fun _ _ => rfl) (by simp)
    hb (ok_one (by kernel_rfl) rfl (okWide_bool_mk Try.underlying4 _))⟩

theorem fnPackets_holds : Rows.FnPacketsSaid :=
  OpenClaim.holds_of_wide 5 Try.f5 rfl rfl rfl rfl rfl rfl rfl ⟨rfl, rfl, rfl, rfl, rfl⟩ rfl rfl rfl rfl rfl (by kernel_rfl) Try.func5 (by kernel_rfl)
    (of_decide_eq_true (by kernel_rfl)) (by unfold Func.isWrapper; first | (rw [if_pos (by decide +kernel)]; kernel_rfl) | (rw [if_neg (by decide +kernel)]; exact ⟨rfl, rfl⟩))
    (fun os started H enc _ => fnPackets_lifted os started H enc)
end Go.Proofs.Ytahcaoenddapoaa
