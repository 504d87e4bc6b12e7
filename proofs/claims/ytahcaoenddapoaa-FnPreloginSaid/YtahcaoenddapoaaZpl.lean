/- ZZPrelogin, ZZReadPrelogin, FormatPrelogin's function value. -/
import Derived.Test.YtahcaoenddapoaaRpl
import Derived.Test.YtahcaoenddapoaaPayload
namespace Go.Proofs.Ytahcaoenddapoaa
open Go.RowKit

/-- The map in block mb has the options ks with the data D. -/
def Has (w : World) (mb : Nat) (D : Nat → List Nat) (ks : List Nat) : Prop :=
  ∃ M, MapIs Try.prog 5 w mb M ∧ M.map Prod.fst = ks ∧ ∀ k z, M.lookup k = some z → Bts w z (D k)

theorem lookup_of_mem {M : List (Nat × Value)} {k : Nat} (h : k ∈ M.map Prod.fst) : (M.lookup k).isSome = true := by
  induction M with
  | nil => simp at h
  | cons p M ih =>
    obtain ⟨j, v⟩ := p
    rw [List.lookup_cons]
    by_cases e : k = j
    · simp [e]
    · have : (k == j) = false := by simp [e]
      rw [this]
      refine ih ?_
      simp [e] at h
      simpa using h

theorem Has.fresh {w w' : World} {mb : Nat} {D : Nat → List Nat} {ks : List Nat} (h : Has w mb D ks) (hk : Fresh w w') : Has w' mb D ks := by
  obtain ⟨M, h1, h2, h3⟩ := h
  exact ⟨M, h1.fresh hk, h2, fun k z hz => (h3 k z hz).fresh hk⟩

set_option maxRecDepth 100000 in
set_option maxHeartbeats 1000000 in
theorem zzPrelogin_any (mb : Nat) (D : Nat → List Nat) (ks : List Nat) (hf : Fine D ks) (w : World) (hM : Has w mb D ks) :
    Calls Try.prog 66 #[.int .i64 32767, .map (some mb)] w fun e w' => ∃ v l, e = .returned (.tuple #[v, .nilIface]) ∧ AllPacked 32759 18 (pre D ks) l ∧ Row w.heap.size w' v l ∧ Fresh w w' := by
  obtain ⟨M, h1, h2, h3⟩ := hM
  have hnil : Bts w (.slice none 0 0) [] := (RowK.nil (E := 5) 0 w).bts
  have hMl : M.length = ks.length := by rw [← h2, List.length_map]
  have hlt := h1.lt
  have HF := Go.Lib.hid hf
  have H1 := Go.Lib.hid h1
  have H2 := Go.Lib.hid h2
  have H3 := Go.Lib.hid h3
  clear hf h1 h2 h3
  go_enter Try.func66, Try.ntmps66
  go_wp2_with (fail)
  refine (zzBuffer_any 32767 (by omega) (.slice none 0 0) [] (by simp) _ hnil).mono ?_
  rintro e w1 ⟨g, hb, bb, C, v, rfl, hN, hF1⟩
  have HN := Go.Lib.hid hN
  have HF1 := Go.Lib.hid hF1
  clear hN hF1
  go_wp2_with (fail)
  refine (writePrelogin_any w.heap.size g hb bb C mb v M w1 HN.out (H1.out.fresh HF1.out) (by have := HF.out.n1; omega) hlt HF1.out.size D (fun k z hz => ?_)).mono ?_
  · refine ⟨(H3.out k z hz).fresh HF1.out, (H3.out k z hz).block, ?_⟩
    have := HF.out.l1 k (by rw [← H2.out]; exact mem_of_lookup M k (by rw [hz]; rfl))
    omega
  rintro e w2 ⟨rfl, ks', hup, h256, hiff, v2, L, seq, l, R2, hP, K2⟩
  have hks : ks' = ks := by
    refine sorted_one hup HF.out.up fun k => ⟨fun hk => ?_, fun hk => ?_⟩
    · have := (hiff k (h256 k hk)).2 hk
      rw [← H2.out]
      exact mem_of_lookup M k this
    · refine (hiff k (by have := HF.out.lt k hk; omega)).1 (lookup_of_mem (by rw [H2.out]; exact hk))
  subst hks
  rw [hMl] at hP
  have HR2 := Go.Lib.hid R2
  have HP := Go.Lib.hid hP
  have HF2 := Go.Lib.hid (HF1.out.trans K2 (fun k hk hs => by omega))
  clear R2 hP K2 hiff hup
  go_wp2_with (fail)
  refine (written_any w.heap.size g hb bb 32767 32768 C 8 seq 18 v2 l L _ HR2.out).mono ?_
  rintro e w3 ⟨rfl, rfl⟩
  go_wp2
  go_ret2
  exact ⟨_, l, rfl, HP.out, HR2.out.wr.row, HF2.out⟩

theorem enter65 (args : Array Value) (W : World) : (callFunc 65 args).run Try.prog W = .ok (.enter 65 args) W := run_enter Try.func65 (by kernel_rfl) (by kernel_rfl) args W

set_option maxRecDepth 100000 in
theorem format1_any (mb p : Nat) (D : Nat → List Nat) (ks : List Nat) (hf : Fine D ks) (l : List Nat) (hl : AllPacked 32759 18 (pre D ks) l) (w : World) (hM : Has w mb D ks) (hp : w.cell? ⟨p, 0, none⟩ = some (.map (some mb))) :
    Calls Try.prog 65 #[.pointer (some ⟨p, 0, none⟩)] w fun e w' => ∃ b, e = .returned (.tuple #[b, .nilIface]) ∧ Bts w' b l ∧ Fresh w w' := by
  have HF := Go.Lib.hid hf
  have HM := Go.Lib.hid hM
  have HLL := Go.Lib.hid hl
  clear hf hM hl
  go_enter Try.func65, Try.ntmps65
  go_wp2_with (fail)
  refine (zzPrelogin_any mb D ks HF.out _ HM.out).mono ?_
  rintro e w1 ⟨v, l', rfl, hP, hr, hF⟩
  have e1 := hP.one HLL.out
  subst e1
  go_wp2
  go_ret2
  exact ⟨v, rfl, hr.bts, hF⟩

set_option maxRecDepth 100000 in
set_option maxHeartbeats 1000000 in
theorem zzReadPrelogin_any (D : Nat → List Nat) (ks : List Nat) (hf : Fine D ks) (D0 : List Nat) (hS : Str 32767 4 false D0 (pre D ks)) (hD : D0.length ≤ 10000000) (A : Option Addr) (n c : Nat) (w : World) (hx : Bts w (.slice A n c) D0) :
    Calls Try.prog 68 #[.int .i64 32767, .slice A n c] w fun e w' => ∃ mb M, e = .returned (.tuple #[.map (some mb), .nilIface]) ∧ MapIs Try.prog 5 w' mb M ∧ Red w' w.heap.size M D ks ∧ w.heap.size ≤ mb ∧ Fresh w w' := by
  have HF := Go.Lib.hid hf
  clear hf
  go_enter Try.func68, Try.ntmps68
  go_wp2_with (fail)
  refine (zzBuffer_any 32767 (by omega) (.slice A n c) D0 (by omega) _ hx).mono ?_
  rintro e w1 ⟨g, hb, bb, C, v, rfl, hN, hF1⟩
  have hc1 := hN.c1
  have hc2 := hN.c2
  have HI := Go.Lib.hid hN.inn
  have hsz := hF1.size
  obtain ⟨b1, b2, b3⟩ : w.heap.size ≤ g ∧ w.heap.size ≤ hb ∧ w.heap.size ≤ bb := ⟨hN.b1, hN.b2, hN.b3⟩
  clear hN
  go_wp2_with (fail)
  refine (readPrelogin_any D ks HF.out w.heap.size g hb bb 32768 (C - 32768) 8 0 0 false _ D0 _ HI.out hS (by omega) (by omega)).mono ?_
  rintro e w2 ⟨mb, M, rfl, hm, hr, hlo, hK⟩
  have H1 := Go.Lib.hid hm
  have H2 := Go.Lib.hid hr
  have HK := Go.Lib.hid (hF1.trans hK (fun k hk e => by rcases e with e | e | e <;> omega))
  clear hm hr hK hF1 HI
  go_wp2
  go_ret2
  exact ⟨mb, M, rfl, H1.out, ⟨H2.out.1, fun k z hz => ⟨(H2.out.2 k z hz).1, fun j hj => by have := (H2.out.2 k z hz).2 j hj; omega⟩⟩, by omega, HK.out⟩
end Go.Proofs.Ytahcaoenddapoaa
