/- FnPrelogin: for all options the law answers true, and what came in reads as it did. No condition. -/
import Derived.Test.YtahcaoenddapoaaLpr
import Derived.Test.YtahcaoenddapoaaPost
import Derived.Deep.Slices
import Derived.Deep.Fields
import Derived.Carry
import Derived.ChangeSlices
namespace Go.Proofs.Ytahcaoenddapoaa
open Go.ChangeShapes Go.WideShapes Go.ChangeAt Go.RowKit Go.Deep
open Go.WideMaps Go.WideElems

theorem Try.own : ownKnob Try.prog.godebug = none := by kernel_rfl
theorem Try.laidOut : laidOutB Try.prog = true := by kernel_rfl

theorem wf_byte {n : Int} (h : (Lit.int .u8 n).wf = true) : 0 ≤ n ∧ n < 256 := by
  have e1 : IntKind.u8.min = 0 := rfl
  have e2 : IntKind.u8.max = 255 := rfl
  simp [Lit.wf, e1, e2] at h
  omega
theorem wf_word {n : Int} (h : (Lit.int .i64 n).wf = true) : -9223372036854775808 ≤ n ∧ n ≤ 9223372036854775807 := by
  have e1 : IntKind.i64.min = -9223372036854775808 := rfl
  have e2 : IntKind.i64.max = 9223372036854775807 := rfl
  simp [Lit.wf, e1, e2] at h
  omega

/-- A slice of bytes that came in: its bytes, where it has some. -/
theorem bytes_of {H : Type} {enc : TypeId × Value → H} {W : World} {fuel : Nat} {v : Value} {y : DataW H × List MemPlace} (hf : DataW.trod enc Try.prog W 0 (fun _ => true) true fuel 24 [v] = some y) :
    ∃ (A : Option Addr) (c : Nat) (T : List Nat), v = .slice A T.length c ∧ (T.length ≠ 0 → Bts W v T) ∧ ∀ b ∈ T, b < 256 := by
  rcases open_ints Try.underlying24 Try.underlying5 (by kernel_rfl) hf with ⟨h0, _⟩ | ⟨a, len, cap, zs, h0, _, hl, hm, hz, _, hcell, hw⟩
  · simp at h0
    exact ⟨none, 0, [], h0, fun h => absurd rfl h, fun b hb => by cases hb⟩
  · simp at h0
    subst h0
    have hzl : zs.length = cap := by simpa using hz
    have hTl : ((zs.take len).map Int.toNat).length = len := by simp; omega
    refine ⟨some a, cap, (zs.take len).map Int.toNat, by rw [hTl], fun hne => ?_, fun b' hb' => ?_⟩
    · rw [hTl] at hne
      have g0 := hcell 0 (by omega)
      obtain ⟨b, off, spot⟩ := a
      have hspot : spot = none := by simpa [Addr.add] using World.cell?_spot g0
      subst hspot
      have hlt : b < W.heap.size := by
        have := World.block_lt_of_cell? W _ g0
        simpa [Addr.add] using this
      refine ⟨some ⟨b, off, none⟩, cap, by rw [hTl], by omega, hm, fun h => (by cases h), fun ad hA => ?_⟩
      cases hA
      refine ⟨b, off, rfl, hlt, fun j hj => ?_⟩
      have hj' : j < len := by omega
      have hadd : (⟨b, off, none⟩ : Addr).add j = ⟨b, off + j, none⟩ := by unfold Addr.add; split <;> simp_all
      have hg := hcell j (by omega)
      rw [hadd] at hg
      rw [hg]
      have e1 : zs.getD j 0 = zs[j]'(by omega) := by simp [List.getD, show j < zs.length by omega]
      have hwj := wf_byte (hw (zs[j]'(by omega)) (List.getElem_mem _))
      rw [e1]
      simp
      omega
    · obtain ⟨z, hz', rfl⟩ := List.mem_map.1 hb'
      have := wf_byte (hw z (List.mem_of_mem_take hz'))
      omega

/-- The fields of an option's type. -/
noncomputable def fs61 : Array Field := match Try.prog.underlying 61 with
  | some (.struct fs) => fs
  | _ => #[]
theorem struct61 : Try.prog.underlying 61 = some (.struct fs61) := by kernel_rfl
theorem one61 : oneCellFields Try.prog fs61 = true := by kernel_rfl
theorem cells61 : Try.prog.cellsOf 61 = 2 := by kernel_rfl
theorem fsize61 : fs61.size = 2 := by kernel_rfl
theorem fld0 : (fs61[0]?).map (·.type) = some 3 := by kernel_rfl
theorem fld1 : (fs61[1]?).map (·.type) = some 24 := by kernel_rfl

/-- A struct of two cells that came in: a number and a slice. -/
theorem opt_of {H : Type} {enc : TypeId × Value → H} {W : World} {fuel : Nat} {cs : List Value} {y : DataW H × List MemPlace} (hf : DataW.trod enc Try.prog W 0 (fun _ => true) true fuel 61 cs = some y) (hl : cs.length = 2) :
    ∃ (t : Int) (v : Value) (T : List Nat), cs = [.int .i64 t, v] ∧ (-9223372036854775808 ≤ t ∧ t ≤ 9223372036854775807) ∧ (∃ A c, v = .slice A T.length c) ∧ (T.length ≠ 0 → Bts W v T) ∧ ∀ b ∈ T, b < 256 := by
  obtain ⟨xs, n, _, hx, hcl, hlen, hg⟩ := DataW.trod_struct struct61 hf
  rw [fsize61] at hlen
  obtain ⟨c0, c1, rfl⟩ : ∃ c0 c1, cs = [c0, c1] := by
    clear hf hx hcl hg
    match cs, hl with
    | [c0, c1], _ => exact ⟨c0, c1, rfl⟩
  obtain ⟨y0, y1, rfl⟩ : ∃ y0 y1, xs = [y0, y1] := by
    clear hf hx hcl hg
    match xs, hlen with
    | [y0, y1], _ => exact ⟨y0, y1, rfl⟩
  obtain ⟨f0, h0, t0⟩ : ∃ f0, fs61[0]? = some f0 ∧ f0.type = 3 := by
    have t0 := fld0
    cases h : fs61[0]? with
    | none => rw [h] at t0; cases t0
    | some f0 => rw [h] at t0; exact ⟨f0, rfl, by simpa using t0⟩
  obtain ⟨f1, h1, t1⟩ : ∃ f1, fs61[1]? = some f1 ∧ f1.type = 24 := by
    have t1 := fld1
    cases h : fs61[1]? with
    | none => rw [h] at t1; cases t1
    | some f1 => rw [h] at t1; exact ⟨f1, rfl, by simpa using t1⟩
  obtain ⟨o0, k0⟩ := hone_of one61 0 _ h0
  obtain ⟨o1, k1⟩ := hone_of one61 1 _ h1
  have g0 := hg 0 _ h0
  have g1 := hg 1 _ h1
  rw [o0, k0, t0] at g0
  rw [o1, k1, t1] at g1
  simp only [List.drop_zero, List.take_succ_cons, List.take_zero, List.getElem?_cons_zero] at g0
  simp only [List.drop_succ_cons, List.drop_zero, List.take_succ_cons, List.take_zero, List.getElem?_cons_succ, List.getElem?_cons_zero] at g1
  obtain ⟨z0, e0, _, w0⟩ := DataW.trod_int Try.underlying3 g0
  obtain rfl : c0 = .int .i64 z0 := by simpa using e0
  obtain ⟨A, c, T, r1, r2, r3⟩ := bytes_of g1
  exact ⟨z0, c1, T, rfl, wf_word w0, ⟨A, c, r1⟩, r2, r3⟩

/-- Options that came in. -/
theorem opts_in {H : Type} {enc : TypeId × Value → H} {W : World} {A : Option Addr} {n c : Nat} {d : DataW H} {p : List MemPlace} (h : DataW.Trod enc Try.prog W 0 (fun _ => true) true 51 (.slice A n c) d p) :
    ∃ X : List (Int × Value × List Nat), X.length = n ∧ (n ≠ 0 → ∃ b o, A = some ⟨b, o, none⟩ ∧ Inp W b o X) ∧ ∀ x ∈ X, ∀ y ∈ x.2.2, y < 256 := by
  obtain ⟨fuel, hf⟩ := h
  rcases open_slice Try.underlying51 hf with ⟨h0, _⟩ | ⟨a, len, cap, m, n', Dd, Pl, h0, _, hl, hm, hmm, _, hi⟩
  · simp [Value.cells] at h0
    exact ⟨[], h0.2.1.symm, fun h => absurd h0.2.1 h, fun x hx => by cases hx⟩
  · simp [Value.cells] at h0
    obtain ⟨rfl, rfl, rfl⟩ := h0
    rw [if_pos rfl] at hmm
    have hone : ∀ i : Nat, i < n → ∃ x : Int × Value × List Nat, (W.cell? (a.add (i * 2)) = some (.int .i64 x.1) ∧ W.cell? ((a.add (i * 2)).add 1) = some x.2.1) ∧ (-9223372036854775808 ≤ x.1 ∧ x.1 ≤ 9223372036854775807) ∧ (∃ A c, x.2.1 = .slice A x.2.2.length c) ∧ (x.2.2.length ≠ 0 → Bts W x.2.1 x.2.2) ∧ ∀ b ∈ x.2.2, b < 256 := by
      intro i hin
      obtain ⟨cs', hc, ht⟩ := hi i (by omega)
      rw [cells61] at hc
      obtain ⟨_, hcl, hat⟩ := World.cells?_some hc
      obtain ⟨t, v, T, rfl, q1, q2, q3, q4⟩ := opt_of ht hcl
      have g0 := hat 0 (by omega)
      have g1 := hat 1 (by omega)
      have e0 : (a.add (i * 2)).add 0 = a.add (i * 2) := by simp [Addr.add]
      rw [e0] at g0
      exact ⟨(t, v, T), ⟨g0, g1⟩, q1, q2, q3, q4⟩
    have hX : ∀ k, k ≤ n → ∃ X : List (Int × Value × List Nat), X.length = k ∧ ∀ i (h : i < X.length), (W.cell? (a.add (i * 2)) = some (.int .i64 X[i].1) ∧ W.cell? ((a.add (i * 2)).add 1) = some X[i].2.1) ∧ (-9223372036854775808 ≤ X[i].1 ∧ X[i].1 ≤ 9223372036854775807) ∧ (∃ A c, X[i].2.1 = .slice A X[i].2.2.length c) ∧ (X[i].2.2.length ≠ 0 → Bts W X[i].2.1 X[i].2.2) ∧ ∀ b ∈ X[i].2.2, b < 256 := by
      intro k
      induction k with
      | zero => intro _; exact ⟨[], rfl, fun i h => by simp at h⟩
      | succ k ih =>
        intro hk
        obtain ⟨X, hXl, hXi⟩ := ih (by omega)
        obtain ⟨x, hx⟩ := hone k (by omega)
        refine ⟨X ++ [x], by simp [hXl], fun i h => ?_⟩
        by_cases hik : i < X.length
        · have e : (X ++ [x])[i] = X[i] := List.getElem_append_left hik
          rw [e]
          exact hXi i hik
        · have hik' : i = X.length := by simp at h; omega
          subst hik'
          have e : (X ++ [x])[X.length] = x := by simp
          rw [e, hXl]
          exact hx
    obtain ⟨X, hXl, hXi⟩ := hX n (Nat.le_refl _)
    refine ⟨X, hXl, fun hn0 => ?_, fun x hx => ?_⟩
    · obtain ⟨⟨g0, _⟩, _⟩ := hXi 0 (by omega)
      obtain ⟨b, off, spot⟩ := a
      have hspot : spot = none := by simpa [Addr.add] using World.cell?_spot g0
      subst hspot
      refine ⟨b, off, rfl, fun i h => ?_⟩
      obtain ⟨⟨c0, c1⟩, q1, q2, q3, q4⟩ := hXi i h
      have hadd : ∀ j, (⟨b, off, none⟩ : Addr).add j = ⟨b, off + j, none⟩ := fun j => by unfold Addr.add; split <;> simp_all
      rw [hadd] at c0
      rw [hadd] at c1
      have hadd2 : (⟨b, off + i * 2, none⟩ : Addr).add 1 = ⟨b, off + i * 2 + 1, none⟩ := by unfold Addr.add; split <;> simp_all
      rw [hadd2] at c1
      exact ⟨c0, c1, ⟨q2, q3⟩, q1⟩
    · obtain ⟨i, h, rfl⟩ := List.getElem_of_mem hx
      exact (hXi i h).2.2.2.2

set_option maxRecDepth 100000 in
theorem fnPrelogin_lifted (os : Os) (started : os.Started) (H : Type) (enc : TypeId × Value → H) :
    ReturnsInHanded {} Try.checked os 8 .any (Rows.fnPreloginSpec.pre6 enc Try.prog Try.f8 Rows.fnPreloginRow.domain false) (Rows.fnPreloginSpec.post enc Try.prog Try.f8 false true false false) := by
  refine returnsInHanded_of_change (C := Try.checked) Try.own started (by kernel_rfl) Try.func8
    (ChangeSpec.witness6 (enc := enc) (C := Try.checked) false ⟨#[], #[.slice none 0 0], []⟩ 8 (by kernel_rfl) (by kernel_rfl) (by kernel_rfl) (by kernel_rfl)) ?_
  intro W base args ds gs before hval0 hW hcnd _
  have hval : ∀ (j : Nat) t v, Try.f8.params[j]? = some t → args[j]? = some v → Value.okWide Try.prog W .any base t v := hval0
  have hW' := hW
  obtain ⟨p, q, hA0, hV, rfl, hfz, hnd⟩ := hW
  have hA : DataW.TrodAll enc Try.prog W 0 (fun _ => true) true Try.f8.params.toList args.toList ds p := hA0
  rw [Try.params8] at hA hval
  obtain ⟨v0, d0, rfl, rfl, t0⟩ := trodAll_one hA
  obtain ⟨rfl, rfl⟩ := trodVars_none hV
  obtain ⟨A, n, c, rfl⟩ := okWide_slice Try.underlying51 (hval 0 51 v0 rfl rfl)
  have hlt : ∀ x ∈ p, x.block < W.heap.size := fun x hx => hW'.lt x (by simpa using hx)
  clear hA0 hval0
  simp only [List.append_nil] at hW'
  obtain ⟨X, hX1, hX2, hX3⟩ := opts_in t0
  refine (lawPrelogin_any A n c X hX1 W hX2 hX3).mono fun e W' ⟨he, hF⟩ => ?_
  subst he
  have hb := hF.below'
  exact ⟨_, rfl, post_of_below (pa := p) (pv := []) hW' (fun _ _ _ => trodAll_mk1 (shut_bool Try.underlying4 _))
    (fun sp hsp => trodAll_mk1 (Trod_stays Try.laidOut (by kernel_rfl) (of_decide_eq_true (by kernel_rfl)) t0 (fun x hx => hb.same (hlt x hx)) (fun x hx => hsp x hx))) (fun _ _ => rfl) (by simp)
    hb (ok_one (by kernel_rfl) rfl (okWide_bool_mk Try.underlying4 _))⟩

theorem fnPrelogin_holds : Rows.FnPreloginSaid :=
  OpenClaim.holds_of_wide 8 Try.f8 rfl rfl rfl rfl rfl rfl rfl ⟨rfl, rfl, rfl, rfl, rfl⟩ rfl rfl rfl rfl rfl (by kernel_rfl) Try.func8 (by kernel_rfl)
    (of_decide_eq_true (by kernel_rfl)) (by unfold Func.isWrapper; first | (rw [if_pos (by decide +kernel)]; kernel_rfl) | (rw [if_neg (by decide +kernel)]; exact ⟨rfl, rfl⟩))
    (fun os started H enc _ => fnPrelogin_lifted os started H enc)
end Go.Proofs.Ytahcaoenddapoaa
