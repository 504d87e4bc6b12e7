/- ParsePrelogin's function value. (Region 6 printed by gen67.py.) -/
import Derived.Test.YtahcaoenddapoaaZpl
import Derived.Test.YtahcaoenddapoaaOrw
import Derived.Deep.Cut
import Derived.IntWalk
namespace Go.Proofs.Ytahcaoenddapoaa
open Go.RowKit

theorem enter67 (args : Array Value) (W : World) : (callFunc 67 args).run Try.prog W = .ok (.enter 67 args) W := run_enter Try.func67 (by kernel_rfl) (by kernel_rfl) args W

/-- What has been put into the row: the options that have come, each with its data in a block of its own. -/
structure Puts (w : World) (lo : Nat) (v : Value) (L : List (Nat × Value)) (D : Nat → List Nat) : Prop where
  row : RowO 61 lo w v L
  dat : ∀ x ∈ L, Bts w x.2 (D x.1) ∧ x.2.oneCell' = true ∧ ∀ j, x.2.ownBlock = some j → lo ≤ j ∧ v.ownBlock ≠ some j

theorem Puts.kept {w w' : World} {lo : Nat} {v : Value} {L : List (Nat × Value)} {D : Nat → List Nat} {S : Nat → Prop} (h : Puts w lo v L D) (hk : Kept w w' S) (hS : ∀ j, lo ≤ j → ¬ S j) : Puts w' lo v L D :=
  ⟨h.row.kept hk (fun j hj => hS j (h.row.block j hj).1), fun x hx => by
    obtain ⟨h1, h2, h3⟩ := h.dat x hx
    exact ⟨h1.kept hk (fun j hj => hS j (h3 j hj).1), h2, h3⟩⟩
theorem RowO.lower {E : TypeId} {base base' : Nat} {w : World} {v : Value} {l : List (Nat × Value)} (h : RowO E base w v l) (hb : base' ≤ base) : RowO E base' w v l := by
  unfold RowO at h ⊢
  refine ⟨h.1, ?_⟩
  rcases h.2 with h0 | ⟨g, cap, cur, rfl, hb1, rest⟩
  · exact .inl h0
  · exact .inr ⟨g, cap, cur, rfl, Nat.le_trans hb hb1, rest⟩
theorem Puts.lower {w : World} {lo lo' : Nat} {v : Value} {L : List (Nat × Value)} {D : Nat → List Nat} (h : Puts w lo v L D) (hl : lo' ≤ lo) : Puts w lo' v L D :=
  ⟨h.row.lower hl, fun x hx => by
    obtain ⟨h1, h2, h3⟩ := h.dat x hx
    exact ⟨h1, h2, fun j hj => ⟨Nat.le_trans hl (h3 j hj).1, (h3 j hj).2⟩⟩⟩
theorem Puts.fresh {w w' : World} {lo : Nat} {v : Value} {L : List (Nat × Value)} {D : Nat → List Nat} (h : Puts w lo v L D) (hk : Fresh w w') : Puts w' lo v L D := h.kept hk (fun _ _ h => h)

/-- Between two steps of the range. -/
structure Inv67 (w1 wr : World) (p1 p2 mb rb : Nat) (M : List (Nat × Value)) (D : Nat → List Nat) (L : List (Nat × Value)) (v : Value) : Prop where
  c1 : wr.cell? ⟨p1, 0, none⟩ = some (.bool true)
  c2 : wr.cell? ⟨p2, 0, none⟩ = some v
  f1 : wr.frozen? ⟨p1, 0, none⟩ = false
  f2 : wr.frozen? ⟨p2, 0, none⟩ = false
  pu : Puts wr (rb + 1) v L D
  nd : (L.map Prod.fst).Nodup
  al : ∀ k ∈ L.map Prod.fst, k < 256 ∧ (M.lookup k).isSome = true
  rg : Rng Try.prog 5 wr mb rb M (L.map Prod.fst)
  kp : Kept w1 wr (fun k => k = p1 ∨ k = p2)
  sz : rb < wr.heap.size

theorem inv67_step {w1 wr w3 x xn : World} {p1 p2 mb rb k nz c5 c8 : Nat} {M : List (Nat × Value)} {D : Nat → List Nat} {L : List (Nat × Value)} {v : Value} {A5 A8 : Option Addr} (hI : Inv67 w1 wr p1 p2 mb rb M D L v)
    (K3 : Kept wr w3 (fun j => j = rb)) (hrg : Rng Try.prog 5 w3 mb rb M (L.map Prod.fst ++ [k])) (hlt : w3.rangeLeft mb rb < wr.rangeLeft mb rb) (hno : k ∉ L.map Prod.fst) (hk : k < 256) (hv : (M.lookup k).isSome = true)
    (n12 : p1 ≠ p2) (l1 : p1 < w1.heap.size) (l2 : p2 < w1.heap.size) (hrb : w1.heap.size ≤ rb) (_ : mb ≠ p1) (hm2 : mb ≠ p2) (hmr : mb ≤ rb) (hF : Fresh w3 x) (hr : Row w3.heap.size x (.slice A5 nz c5) (D k))
    (hro : RowO 61 (rb + 1) xn (.slice A8 (L.length + 1) c8) (L ++ [(k, .slice A5 nz c5)])) (hg : x.grownBy xn v.ownBlock) (hm : Moved x v (.slice A8 (L.length + 1) c8)) :
    (xn.cell? ⟨p2, 0, none⟩ = some v ∧ xn.frozen? ⟨p2, 0, none⟩ = false) ∧ Inv67 w1 (xn.setCell ⟨p2, 0, none⟩ (.slice A8 (L.length + 1) c8)) p1 p2 mb rb M D (L ++ [(k, .slice A5 nz c5)]) (.slice A8 (L.length + 1) c8) ∧ (xn.setCell ⟨p2, 0, none⟩ (.slice A8 (L.length + 1) c8)).rangeLeft mb rb < wr.rangeLeft mb rb := by
  have hvb := hI.pu.row.block
  have Kg : Kept x xn (fun j => v.ownBlock = some j) := Kept.of_grown hg
  have s3 := K3.size
  have sx := hF.size
  have sn := Kg.size
  have s0 := hI.sz
  have hvl : ∀ j, v.ownBlock = some j → rb + 1 ≤ j ∧ j < wr.heap.size := hvb
  have Kx : Kept w3 xn (fun j => v.ownBlock = some j) := (hF.mono (fun _ _ h => h.elim)).trans Kg (fun _ _ h => h)
  have Kz : Kept xn (xn.setCell ⟨p2, 0, none⟩ (.slice A8 (L.length + 1) c8)) (fun j => j = p2) := (Kept.refl xn (fun j => j = p2)).setCell (p := ⟨p2, 0, none⟩) (.inl rfl) _
  have a2 : xn.cell? ⟨p2, 0, none⟩ = some v := Kx.held (K3.held hI.c2 (show ¬ p2 = rb by omega)) (fun e => by have := hvl p2 e; omega)
  have g2 : xn.frozen? ⟨p2, 0, none⟩ = false := (Kx.frozen (p := ⟨p2, 0, none⟩) (show p2 < w3.heap.size by omega) (fun e => by have := hvl p2 e; omega)).trans ((K3.frozen (p := ⟨p2, 0, none⟩) (show p2 < wr.heap.size by omega) (show ¬ p2 = rb by omega)).trans hI.f2)
  have g1 : xn.frozen? ⟨p1, 0, none⟩ = false := (Kx.frozen (p := ⟨p1, 0, none⟩) (show p1 < w3.heap.size by omega) (fun e => by have := hvl p1 e; omega)).trans ((K3.frozen (p := ⟨p1, 0, none⟩) (show p1 < wr.heap.size by omega) (show ¬ p1 = rb by omega)).trans hI.f1)
  have hblk : ∀ j, (Value.slice A8 (L.length + 1) c8).ownBlock = some j → rb + 1 ≤ j := fun j hj => (hro.block j hj).1
  refine ⟨⟨a2, g2⟩, ⟨?_, World.cell?_setCell_same xn _ _ a2, by rw [← g1]; simp, by rw [← g2]; simp, ⟨hro.kept Kz (fun j hj e => by have := hblk j hj; omega), fun y hy => ?_⟩, ?_, ?_, ?_, ?_, ?_⟩, ?_⟩
  · exact Kz.held (Kx.held (K3.held hI.c1 (show ¬ p1 = rb by omega)) (fun e => by have := hvl p1 e; omega)) n12
  · rcases List.mem_append.1 hy with hy | hy
    · obtain ⟨d1, d2, d3⟩ := hI.pu.dat y hy
      have hb1 := d1.block
      refine ⟨((d1.kept K3 (fun j hj e => by have := (d3 j hj).1; omega)).kept Kx (fun j hj e => (d3 j hj).2 e)).kept Kz (fun j hj e => by have := (d3 j hj).1; omega), d2, fun j hj => ⟨(d3 j hj).1, fun e => ?_⟩⟩
      rcases hm j e with h | h
      · exact (d3 j hj).2 h
      · have := hb1 j hj; omega
    · simp at hy
      subst hy
      have hb2 := hr.block
      refine ⟨(hr.bts.kept Kg (fun j hj e => by have h1 := hb2 j hj; have h2 := hvl j e; omega)).kept Kz (fun j hj e => by have := hb2 j hj; omega), rfl, fun j hj => ⟨by have := hb2 j hj; omega, fun e => ?_⟩⟩
      rcases hm j e with h | h
      · have h1 := hb2 j hj; have h2 := hvl j h; omega
      · have := hb2 j hj; omega
  · rw [List.map_append]
    exact List.nodup_append.2 ⟨hI.nd, by simp, by intro a ha b hb e; simp at hb; subst hb; exact hno (e ▸ ha)⟩
  · intro j hj
    rw [List.map_append] at hj
    rcases List.mem_append.1 hj with h | h
    · exact hI.al j h
    · simp at h; subst h; exact ⟨hk, hv⟩
  · rw [List.map_append]
    exact (hrg.kept Kx (fun e => by have := hvl mb e; omega) (fun e => by have := hvl rb e; omega)).kept Kz hm2 (by omega)
  · exact ((hI.kp.trans K3 (fun j hj e => by omega)).trans Kx (fun j hj e => by have := hvl j e; omega)).trans Kz (fun j hj e => .inr e)
  · have := Kz.size; omega
  · obtain ⟨l3, l4, _⟩ := hrg.lt
    rw [Rng.left (w := w3) (((Kz.block mb (by omega) hm2)).trans (Kx.block mb l3 (fun e => by have := hvl mb e; omega))) (((Kz.block rb (by omega) (by omega))).trans (Kx.block rb l4 (fun e => by have := hvl rb e; omega)))]
    exact hlt

set_option maxRecDepth 100000 in
set_option maxHeartbeats 1000000 in
theorem parse1_any (D : Nat → List Nat) (ks : List Nat) (hf : Fine D ks) (D0 : List Nat) (hS : Str 32767 4 false D0 (pre D ks)) (hD : D0.length ≤ 10000000) (A : Option Addr) (n c : Nat) (w : World) (hx : Bts w (.slice A n c) D0) (p0 p1 p2 : Nat) (v1 : Value)
    (h0 : w.cell? ⟨p0, 0, none⟩ = some (.slice A n c)) (h1 : w.cell? ⟨p1, 0, none⟩ = some v1) (h2 : w.cell? ⟨p2, 0, none⟩ = some (.slice none 0 0))
    (f1 : w.frozen? ⟨p1, 0, none⟩ = false) (f2 : w.frozen? ⟨p2, 0, none⟩ = false) (n12 : p1 ≠ p2) :
    Calls Try.prog 67 #[.pointer (some ⟨p0, 0, none⟩), .pointer (some ⟨p1, 0, none⟩), .pointer (some ⟨p2, 0, none⟩)] w fun e w' => e = .returned (.tuple #[]) ∧ ∃ v L, w'.cell? ⟨p1, 0, none⟩ = some (.bool true) ∧ w'.cell? ⟨p2, 0, none⟩ = some v ∧ Puts w' w.heap.size v L D ∧ (L.map Prod.fst).Nodup ∧ (∀ k, k ∈ L.map Prod.fst ↔ k ∈ ks) ∧ Kept w w' (fun k => k = p1 ∨ k = p2) ∧ w'.frozen? ⟨p1, 0, none⟩ = false ∧ w'.frozen? ⟨p2, 0, none⟩ = false := by
  obtain ⟨i0, hi, hz0, hz1, hz2⟩ := info_parts info5
  obtain ⟨i1, hi1, hy0, hy1, hy2⟩ := info_parts info61
  have HF := Go.Lib.hid hf
  have l1 : p1 < w.heap.size := World.block_lt_of_cell? w _ h1
  have l2 : p2 < w.heap.size := World.block_lt_of_cell? w _ h2
  clear hf
  go_enter Try.func67, Try.ntmps67
  go_wp2_with (fail)
  refine (zzReadPrelogin_any D ks HF.out D0 hS hD A n c _ hx).mono ?_
  rintro e w1 ⟨mb, M, rfl, hm, hr, hlo, hF⟩
  have a1 := hF.held h1 (fun h => h)
  have a2 := hF.held h2 (fun h => h)
  have g1 := (hF.frozen (p := ⟨p1, 0, none⟩) l1 (fun h => h)).trans f1
  have g2 := (hF.frozen (p := ⟨p2, 0, none⟩) l2 (fun h => h)).trans f2
  have HM := Go.Lib.hid hm
  have HR := Go.Lib.hid hr
  have HF1 := Go.Lib.hid hF
  clear h0 h1 h2 f1 f2 hm hr hF hx hS
  go_wp2_with ((with_reducible refine stop_range (T := 105) (x := .tmp 14) rfl ?_))
  unfold Stop
  have hset : Kept w1 (w1.setCell ⟨p1, 0, none⟩ (.bool true)) (fun k => k = p1 ∨ k = p2) := (Kept.refl w1 _).setCell (p := ⟨p1, 0, none⟩) (.inl (.inl rfl)) _
  have b1 : (w1.setCell ⟨p1, 0, none⟩ (.bool true)).cell? ⟨p1, 0, none⟩ = some (.bool true) := World.cell?_setCell_same w1 _ _ a1
  have hset1 : Kept w1 (w1.setCell ⟨p1, 0, none⟩ (.bool true)) (fun k => k = p1) := (Kept.refl w1 (fun k => k = p1)).setCell (p := ⟨p1, 0, none⟩) (.inl rfl) _
  have b2 := hset1.held a2 (fun h => n12 h.symm)
  have e1 : (w1.setCell ⟨p1, 0, none⟩ (.bool true)).frozen? ⟨p1, 0, none⟩ = false := by rw [← g1]; simp
  have e2 : (w1.setCell ⟨p1, 0, none⟩ (.bool true)).frozen? ⟨p2, 0, none⟩ = false := by rw [← g2]; simp
  have hszs : (w1.setCell ⟨p1, 0, none⟩ (.bool true)).heap.size = w1.heap.size := by simp
  have hms := HM.out.kept hset1 (fun e => by have := HF1.out.size; omega)
  generalize w1.setCell ⟨p1, 0, none⟩ (.bool true) = ws at *
  refine wpList_range_map (kt := 5) rfl (.tmp 14) 105 24 rfl Try.underlying5 Try.underlying105 mb M (by kernel_rfl) hms ?_
  intro w2 hRng hF2 hs2
  have c1 := hF2.held b1 (fun h => h)
  have c2 := hF2.held b2 (fun h => h)
  have hs1 := HF1.out.size
  have d1 := (hF2.frozen (p := ⟨p1, 0, none⟩) (show p1 < ws.heap.size by omega) (fun h => h)).trans e1
  have d2 := (hF2.frozen (p := ⟨p2, 0, none⟩) (show p2 < ws.heap.size by omega) (fun h => h)).trans e2
  have hK2 : Kept w1 w2 (fun k => k = p1 ∨ k = p2) := hset.fresh hF2
  have HRNG := Go.Lib.hid hRng
  have HK2 := Go.Lib.hid hK2
  have HCC := Go.Lib.hid (And.intro c1 (And.intro c2 (And.intro d1 d2)))
  rw [hszs] at hs2
  obtain ⟨rb, hrb⟩ : ∃ rb, ws.heap.size = rb := ⟨_, rfl⟩
  rw [hrb] at HRNG ⊢
  have hrb1 : rb = w1.heap.size := by omega
  have HRB := Go.Lib.hid hrb1
  have hrb2 : w2.heap.size = rb + 1 := by omega
  have HRB2 := Go.Lib.hid hrb2
  clear hRng hK2 c1 c2 d1 d2 hs2 hszs hms hF2 hset hset1 b1 b2 e1 e2 hrb g1 g2 a1 a2 hrb1 hrb2
  simp only [Act.put, List.setIfInBounds_toArray, List.set_cons_succ, List.set_cons_zero]
  go_wp2_with (fail)
  go_loopw [5] (fun _ wr => ∃ (L : List (Nat × Value)) (v : Value), Inv67 w1 wr p1 p2 mb rb M D L v) (fun _ wr => wr.rangeLeft mb rb)
  case atStart => exact ⟨[], _, HCC.out.1, HCC.out.2.1, HCC.out.2.2.1, HCC.out.2.2.2, ⟨RowO.nil _ _ _, fun x hx => by cases hx⟩, List.nodup_nil, (fun k hk => by cases hk), HRNG.out, HK2.out, by have := HRB2.out; omega⟩
  case round =>
    obtain ⟨L, v, hI⟩ := hrel
    have HII := Go.Lib.hid hI
    have hrg := hI.rg
    have HRG := Go.Lib.hid hrg
    clear hI hrg
    go_wp2_with ((with_reducible refine stop_next (x := .tmp 15) rfl ?_))
    unfold Stop
    refine wpList_next_map (kt := 5) rfl (.tmp 15) rfl Try.underlying5 mb rb M (L.map Prod.fst) (by kernel_rfl) HRG.out (fun hdone => ?_) (fun k kv w3 hk hv hno hrg3 hlt hK3 hen => ?_)
    · simp only [Act.put, List.setIfInBounds_toArray, List.set_cons_succ, List.set_cons_zero]
      have HDO := Go.Lib.hid hdone
      clear hdone
      go_wp2_with (fail)
      go_end0
      refine ⟨rfl, v, L, HII.out.c1, HII.out.c2, HII.out.pu.lower (by have := HRB.out; omega), HII.out.nd, fun k => ⟨fun hk => ?_, fun hk => ?_⟩, (HF1.out.mono (S := fun k => k = p1 ∨ k = p2) (fun _ _ h => h.elim)).trans HII.out.kp (fun _ _ h => h), HII.out.f1, HII.out.f2⟩
      · have h1 := mem_of_lookup M k (HII.out.al k hk).2
        rw [HR.out.1] at h1
        exact h1
      · have h1 := HF.out.lt k hk
        exact HDO.out k (by omega) (lookup_of_mem (by rw [HR.out.1]; exact hk))
    · simp only [Act.put, List.setIfInBounds_toArray, List.set_cons_succ, List.set_cons_zero]
      obtain ⟨hb3, hr3, hrb3⟩ := hrg3.lt
      have HK3 := Go.Lib.hid hK3
      have HRG3 := Go.Lib.hid hrg3
      have HLT := Go.Lib.hid hlt
      have HV := Go.Lib.hid hv
      have HNO := Go.Lib.hid hno
      clear hK3 hrg3 hlt hv hno
      have hpr : p2 ≠ rb ∧ p1 ≠ rb := by have := HRB.out; have := HF1.out.size; omega
      have hc3 : w3.cell? ⟨p2, 0, none⟩ = some v := HK3.out.held HII.out.c2 hpr.1
      have HC3 := Go.Lib.hid hc3
      clear hc3
      have hbk := (HR.out.2 k kv HV.out).1
      obtain ⟨Az, cz, rfl, hcz⟩ := hbk.slice
      have hb0 : Bts w3 (.slice Az (D k).length cz) (D k) := ((hbk.kept HII.out.kp (fun j hj => by have h1 := (HR.out.2 k _ HV.out).2 j hj; omega)).kept HK3.out (fun j hj => by have h1 := hbk.block j hj; have h2 := HRB.out; omega))
      have hdl := HF.out.l1 k (by rw [← HR.out.1]; exact mem_of_lookup M k (by rw [HV.out]; rfl))
      obtain ⟨dk, hdk⟩ : ∃ dk, D k = dk := ⟨_, rfl⟩
      have HDK := Go.Lib.hid hdk
      rw [hdk] at hb0 hdl hcz HV
      clear hbk hdk
      obtain ⟨nz, hnz⟩ : ∃ nz, dk.length = nz := ⟨_, rfl⟩
      rw [hnz] at hdl hb0 hcz HV
      rw [HDK.out, hnz] at hen ⊢
      have HNZ := Go.Lib.hid hnz
      have HB0 := Go.Lib.hid hb0
      have HDL := Go.Lib.hid hdl
      clear hnz hb0 hdl
      have hll : L.length ≤ 1000 := by
        have h1 := got_le HII.out.nd HII.out.al
        have h2 := congrArg List.length HR.out.1
        have h3 := HF.out.n1
        simp only [List.length_map] at h1 h2
        omega
      have HLL := Go.Lib.hid hll
      have hp3 : Puts w3 (rb + 1) v L D := HII.out.pu.kept HK3.out (fun j hj e => by omega)
      have HP3 := Go.Lib.hid hp3
      have hrw : rb < w3.heap.size := hr3
      have HRW := Go.Lib.hid hrw
      have HFIN := Go.Lib.hid (fun (x : World) (hF : Fresh w3 x) (A5 : Option Addr) (c5 : Nat) (hr : Row w3.heap.size x (.slice A5 nz c5) dk) (A8 : Option Addr) (c8 : Nat) (xn : World) (hro : RowO 61 (rb + 1) xn (.slice A8 (L.length + 1) c8) (L ++ [(k, .slice A5 nz c5)])) (hg : x.grownBy xn v.ownBlock) (hm : Moved x v (.slice A8 (L.length + 1) c8)) => inv67_step (x := x) (xn := xn) (A5 := A5) (c5 := c5) (nz := nz) (A8 := A8) (c8 := c8) HII.out HK3.out HRG3.out HLT.out HNO.out hk (by rw [HV.out]; rfl) n12 (by have := HF1.out.size; omega) (by have := HF1.out.size; omega) (by have := HRB.out; omega) (by omega) (by omega) (by have := HM.out.lt; have := HRB.out; omega) hF (by rw [HDK.out]; exact hr) hro hg hm)
      clear hll hp3 hrw
      go_upto_region 6 with (fail)
      have hwr : IntKind.i64.wrap (k : Int) = (k : Int) := IntWalk.i64_in _ (by omega)
      have hcl := HC3.out
      refine reg_open (S := fun _ => True) 10 #[false, false, false, false, false, false, false, false, false, false] (by kernel_rfl) (by kernel_rfl) (by kernel_rfl) (by intro c a d v w h; cases d <;> exact h) (by kernel_rfl) (fun OPS QQ HO HQ hQP hSel => ?_)
      have hF0 : Fresh w3 w3.drew := (Kept.refl w3 _).drew
      clear hen
      generalize hx0 : w3.drew = x0 at *
      clear hx0 hcl
      refine reg_take (i := 1) (oi := ?o_1) (v := ?v_1) (listed' := #[false, true, false, false, false, false, false, false, false, false]) HO ?hi_1 hSel ?hf_1 ?hr_1 hQP (by kernel_rfl) ?hw_1 ?h_1 trivial ?_
      case hi_1 => (simp only [List.getElem?_toArray, List.getElem?_cons_succ, List.getElem?_cons_zero]; rfl)
      case hf_1 => kernel_rfl
      case hr_1 => kernel_rfl
      case hw_1 => rfl
      case h_1 => (intro W hSw; go_simp; first | done | with_reducible rfl)
      (try simp only [Act.put]); (try simp only [List.setIfInBounds_toArray]); (try simp only [List.set_cons_zero]); (try simp only [List.set_cons_succ])
      refine reg_take (i := 2) (oi := ?o_2) (v := ?v_2) (listed' := #[false, true, true, false, false, false, false, false, false, false]) HO ?hi_2 hSel ?hf_2 ?hr_2 hQP (by kernel_rfl) ?hw_2 ?h_2 trivial ?_
      case hi_2 => (simp only [List.getElem?_toArray, List.getElem?_cons_succ, List.getElem?_cons_zero]; rfl)
      case hf_2 => kernel_rfl
      case hr_2 => kernel_rfl
      case hw_2 => rfl
      case h_2 => (intro W hSw; go_simp; first | done | with_reducible rfl)
      (try simp only [Act.put]); (try simp only [List.setIfInBounds_toArray]); (try simp only [List.set_cons_zero]); (try simp only [List.set_cons_succ])
      refine reg_take (i := 4) (oi := ?o_3) (v := ?v_3) (listed' := #[false, true, true, false, true, false, false, false, false, false]) HO ?hi_3 hSel ?hf_3 ?hr_3 hQP (by kernel_rfl) ?hw_3 ?h_3 trivial ?_
      case hi_3 => (simp only [List.getElem?_toArray, List.getElem?_cons_succ, List.getElem?_cons_zero]; rfl)
      case hf_3 => kernel_rfl
      case hr_3 => kernel_rfl
      case hw_3 => rfl
      case h_3 => (intro W hSw; go_simp; first | done | with_reducible rfl)
      (try simp only [Act.put]); (try simp only [List.setIfInBounds_toArray]); (try simp only [List.set_cons_zero]); (try simp only [List.set_cons_succ])
      refine reg_two (i := 0) (j := 3) (oi := ?o_4) (oj := ?o_5) (li := #[true, true, true, false, true, false, false, false, false, false]) (lj := #[false, true, true, true, true, false, false, false, false, false]) HO ?hi_4 ?hi_5 ?hr_4 (by kernel_rfl) (by kernel_rfl) ?hw_4 ?hw_5 (fun K hK => ?way1_4) (fun K hK => ?way2_4)
      case hi_4 => (simp only [List.getElem?_toArray, List.getElem?_cons_zero]; rfl)
      case hi_5 => (simp only [List.getElem?_toArray, List.getElem?_cons_succ, List.getElem?_cons_zero]; rfl)
      case hr_4 => kernel_rfl
      case hw_4 => rfl
      case hw_5 => rfl
      case way1_4 =>
        skip
        have hc0 : x0.cell? ⟨p2, 0, none⟩ = some v := hF0.held HC3.out (fun h => h)
        go_simp
        refine hK.out _ _ trivial (fun _ => ?_)
        clear hK K hc0
        refine reg_one (i := 3) (o := ?o_6) (listed' := #[true, true, true, true, true, false, false, false, false, false]) HO ?hi_6 ?hr_6 (by kernel_rfl) ?hw_6 (fun K hK => ?_)
        case hi_6 => (simp only [List.getElem?_toArray, List.getElem?_cons_succ, List.getElem?_cons_zero]; rfl)
        case hr_6 => kernel_rfl
        case hw_6 => rfl
        go_simp
        have hG1 : Fresh x0 (x0.alloc (.cells #[] 5)) := (Kept.refl x0 (fun _ => False)).alloc _
        have hr1 : Row w3.heap.size (x0.alloc (.cells #[] 5)) (.slice (some ⟨x0.heap.size, 0, none⟩) 0 0) [] := Row.empty_new x0 _ hF0.size
        have hF1 := hF0.fresh hG1
        have hsz1 := hF0.size
        refine hK.out _ _ trivial (fun _ => ?_)
        clear hK K hG1
        generalize x0.alloc (.cells #[] 5) = x1 at *
        generalize x0.heap.size = G0 at *
        refine reg_one (i := 5) (o := ?o_7) (listed' := #[true, true, true, true, true, true, false, false, false, false]) HO ?hi_7 ?hr_7 (by kernel_rfl) ?hw_7 (fun K hK => ?_)
        case hi_7 => (simp only [List.getElem?_toArray, List.getElem?_cons_succ, List.getElem?_cons_zero]; rfl)
        case hr_7 => kernel_rfl
        case hw_7 => rfl
        refine wp_append_bts _ (.tmp 24) (.tmp 25) 24 24 rfl w3.heap.size i0 Try.underlying24 Try.underlying24 hi hz0 hz1 hz2 (.slice (some ⟨G0, 0, none⟩) 0 0) (.slice Az nz cz) (by kernel_rfl) (by kernel_rfl) [] dk hr1 (HB0.out.fresh hF1) (by have := HDL.out; have := HNZ.out; simp; omega) hF1.size ?_
        intro A5 c5 x2 hr2 hg2 hm2
        have eN : ([] : List Nat).length + dk.length = nz := by simp [HNZ.out]
        rw [eN] at hr2 hm2 ⊢
        rw [List.nil_append] at hr2
        have hF2 : Fresh w3 x2 := hF1.trans (Kept.of_grown hg2) (fun j hj h => by simp [Value.ownBlock] at h; omega)
        refine hK.out _ _ trivial (fun _ => ?_)
        clear hK K hg2 hm2 hr1 hsz1
        simp only [Act.put, List.setIfInBounds_toArray, List.set_cons_zero, List.set_cons_succ]
        refine reg_take (i := 6) (oi := ?o_8) (v := ?v_8) (listed' := #[true, true, true, true, true, true, true, false, false, false]) HO ?hi_8 hSel ?hf_8 ?hr_8 hQP (by kernel_rfl) ?hw_8 ?h_8 trivial ?_
        case hi_8 => (simp only [List.getElem?_toArray, List.getElem?_cons_succ, List.getElem?_cons_zero]; rfl)
        case hf_8 => kernel_rfl
        case hr_8 => kernel_rfl
        case hw_8 => rfl
        case h_8 => (intro W hSw; go_simp; first | done | with_reducible rfl)
        (try simp only [Act.put]); (try simp only [List.setIfInBounds_toArray]); (try simp only [List.set_cons_zero]); (try simp only [List.set_cons_succ])
        refine reg_one (i := 7) (o := ?o_9) (listed' := #[true, true, true, true, true, true, true, true, false, false]) HO ?hi_9 ?hr_9 (by kernel_rfl) ?hw_9 (fun K hK => ?_)
        case hi_9 => (simp only [List.getElem?_toArray, List.getElem?_cons_succ, List.getElem?_cons_zero]; rfl)
        case hr_9 => kernel_rfl
        case hw_9 => rfl
        go_simp
        have hG3 : Fresh x2 (x2.alloc (.cells #[.int .i64 (k : Int), .slice A5 nz c5] 61)) := (Kept.refl x2 (fun _ => False)).alloc _
        have hu0 := cell_of_row (x2.alloc (.cells #[.int .i64 (k : Int), .slice A5 nz c5] 61)) x2.heap.size 0 _ _ _ (heap_alloc_new x2 _)
        have hu1 := cell_of_row (x2.alloc (.cells #[.int .i64 (k : Int), .slice A5 nz c5] 61)) x2.heap.size 1 _ _ _ (heap_alloc_new x2 _)
        have hF3 := hF2.fresh hG3
        have hr3 := hr2.fresh hG3
        refine hK.out _ _ trivial (fun _ => ?_)
        clear hK K hG3
        generalize x2.alloc (.cells #[.int .i64 (k : Int), .slice A5 nz c5] 61) = x3 at *
        generalize x2.heap.size = G1 at *
        refine reg_one (i := 8) (o := ?o_10) (listed' := #[true, true, true, true, true, true, true, true, true, false]) HO ?hi_10 ?hr_10 (by kernel_rfl) ?hw_10 (fun K hK => ?_)
        case hi_10 => (simp only [List.getElem?_toArray, List.getElem?_cons_succ, List.getElem?_cons_zero]; rfl)
        case hr_10 => kernel_rfl
        case hw_10 => rfl
        have hsz3 := hF3.size
        refine wp_append_opt _ (.tmp 21) (.tmp 28) 51 rfl 61 (rb + 1) i1 (.agg #[.int .i64 0, .slice none 0 0]) 32 Try.underlying51 hi1 hy0 (by decide) hy1 hy2 v (by kernel_rfl) L (HP3.out.row.fresh hF3) G1 1 (k, .slice A5 nz c5) (by kernel_rfl) hu0 hu1 rfl HLL.out (by decide) (by have := HRW.out; omega) ?_
        intro A8 c8 x4 hro hg4 hm4
        refine hK.out _ _ trivial (fun _ => ?_)
        clear hK K hu0 hu1
        simp only [Act.put, List.setIfInBounds_toArray, List.set_cons_zero, List.set_cons_succ]
        refine reg_one (i := 9) (o := ?o_11) (listed' := #[true, true, true, true, true, true, true, true, true, true]) HO ?hi_11 ?hr_11 (by kernel_rfl) ?hw_11 (fun K hK => ?_)
        case hi_11 => (simp only [List.getElem?_toArray, List.getElem?_cons_succ, List.getElem?_cons_zero]; rfl)
        case hr_11 => kernel_rfl
        case hw_11 => rfl
        obtain ⟨hst, hfin⟩ := HFIN.out x3 hF3 A5 c5 hr3 A8 c8 x4 hro hg4 hm4
        have hst1 := hst.1
        have hst2 := hst.2
        go_simp
        refine hK.out _ _ trivial (fun _ => ?_)
        clear hK K
        refine reg_done HO HQ (by kernel_rfl) ?_
        have HZ := Go.Lib.hid hfin
        clear hfin hst hst1 hst2 hro hg4 hm4 HO HQ hQP hSel
        generalize x4.setCell ⟨p2, 0, none⟩ (.slice A8 (L.length + 1) c8) = xz at *
        go_wp2_with (fail)
        go_roundw
        case rel => exact ⟨_, _, HZ.out.1⟩
        case measure => exact HZ.out.2
      case way2_4 =>
        go_simp
        have hG1 : Fresh x0 (x0.alloc (.cells #[] 5)) := (Kept.refl x0 (fun _ => False)).alloc _
        have hr1 : Row w3.heap.size (x0.alloc (.cells #[] 5)) (.slice (some ⟨x0.heap.size, 0, none⟩) 0 0) [] := Row.empty_new x0 _ hF0.size
        have hF1 := hF0.fresh hG1
        have hsz1 := hF0.size
        refine hK.out _ _ trivial (fun _ => ?_)
        clear hK K hG1
        generalize x0.alloc (.cells #[] 5) = x1 at *
        generalize x0.heap.size = G0 at *
        refine reg_two (i := 0) (j := 5) (oi := ?o_12) (oj := ?o_13) (li := #[true, true, true, true, true, false, false, false, false, false]) (lj := #[false, true, true, true, true, true, false, false, false, false]) HO ?hi_12 ?hi_13 ?hr_12 (by kernel_rfl) (by kernel_rfl) ?hw_12 ?hw_13 (fun K hK => ?way1_12) (fun K hK => ?way2_12)
        case hi_12 => (simp only [List.getElem?_toArray, List.getElem?_cons_zero]; rfl)
        case hi_13 => (simp only [List.getElem?_toArray, List.getElem?_cons_succ, List.getElem?_cons_zero]; rfl)
        case hr_12 => kernel_rfl
        case hw_12 => rfl
        case hw_13 => rfl
        case way1_12 =>
          skip
          have hc1 : x1.cell? ⟨p2, 0, none⟩ = some v := hF1.held HC3.out (fun h => h)
          go_simp
          refine hK.out _ _ trivial (fun _ => ?_)
          clear hK K hc1
          refine reg_one (i := 5) (o := ?o_14) (listed' := #[true, true, true, true, true, true, false, false, false, false]) HO ?hi_14 ?hr_14 (by kernel_rfl) ?hw_14 (fun K hK => ?_)
          case hi_14 => (simp only [List.getElem?_toArray, List.getElem?_cons_succ, List.getElem?_cons_zero]; rfl)
          case hr_14 => kernel_rfl
          case hw_14 => rfl
          refine wp_append_bts _ (.tmp 24) (.tmp 25) 24 24 rfl w3.heap.size i0 Try.underlying24 Try.underlying24 hi hz0 hz1 hz2 (.slice (some ⟨G0, 0, none⟩) 0 0) (.slice Az nz cz) (by kernel_rfl) (by kernel_rfl) [] dk hr1 (HB0.out.fresh hF1) (by have := HDL.out; have := HNZ.out; simp; omega) hF1.size ?_
          intro A5 c5 x2 hr2 hg2 hm2
          have eN : ([] : List Nat).length + dk.length = nz := by simp [HNZ.out]
          rw [eN] at hr2 hm2 ⊢
          rw [List.nil_append] at hr2
          have hF2 : Fresh w3 x2 := hF1.trans (Kept.of_grown hg2) (fun j hj h => by simp [Value.ownBlock] at h; omega)
          refine hK.out _ _ trivial (fun _ => ?_)
          clear hK K hg2 hm2 hr1 hsz1
          simp only [Act.put, List.setIfInBounds_toArray, List.set_cons_zero, List.set_cons_succ]
          refine reg_take (i := 6) (oi := ?o_15) (v := ?v_15) (listed' := #[true, true, true, true, true, true, true, false, false, false]) HO ?hi_15 hSel ?hf_15 ?hr_15 hQP (by kernel_rfl) ?hw_15 ?h_15 trivial ?_
          case hi_15 => (simp only [List.getElem?_toArray, List.getElem?_cons_succ, List.getElem?_cons_zero]; rfl)
          case hf_15 => kernel_rfl
          case hr_15 => kernel_rfl
          case hw_15 => rfl
          case h_15 => (intro W hSw; go_simp; first | done | with_reducible rfl)
          (try simp only [Act.put]); (try simp only [List.setIfInBounds_toArray]); (try simp only [List.set_cons_zero]); (try simp only [List.set_cons_succ])
          refine reg_one (i := 7) (o := ?o_16) (listed' := #[true, true, true, true, true, true, true, true, false, false]) HO ?hi_16 ?hr_16 (by kernel_rfl) ?hw_16 (fun K hK => ?_)
          case hi_16 => (simp only [List.getElem?_toArray, List.getElem?_cons_succ, List.getElem?_cons_zero]; rfl)
          case hr_16 => kernel_rfl
          case hw_16 => rfl
          go_simp
          have hG3 : Fresh x2 (x2.alloc (.cells #[.int .i64 (k : Int), .slice A5 nz c5] 61)) := (Kept.refl x2 (fun _ => False)).alloc _
          have hu0 := cell_of_row (x2.alloc (.cells #[.int .i64 (k : Int), .slice A5 nz c5] 61)) x2.heap.size 0 _ _ _ (heap_alloc_new x2 _)
          have hu1 := cell_of_row (x2.alloc (.cells #[.int .i64 (k : Int), .slice A5 nz c5] 61)) x2.heap.size 1 _ _ _ (heap_alloc_new x2 _)
          have hF3 := hF2.fresh hG3
          have hr3 := hr2.fresh hG3
          refine hK.out _ _ trivial (fun _ => ?_)
          clear hK K hG3
          generalize x2.alloc (.cells #[.int .i64 (k : Int), .slice A5 nz c5] 61) = x3 at *
          generalize x2.heap.size = G1 at *
          refine reg_one (i := 8) (o := ?o_17) (listed' := #[true, true, true, true, true, true, true, true, true, false]) HO ?hi_17 ?hr_17 (by kernel_rfl) ?hw_17 (fun K hK => ?_)
          case hi_17 => (simp only [List.getElem?_toArray, List.getElem?_cons_succ, List.getElem?_cons_zero]; rfl)
          case hr_17 => kernel_rfl
          case hw_17 => rfl
          have hsz3 := hF3.size
          refine wp_append_opt _ (.tmp 21) (.tmp 28) 51 rfl 61 (rb + 1) i1 (.agg #[.int .i64 0, .slice none 0 0]) 32 Try.underlying51 hi1 hy0 (by decide) hy1 hy2 v (by kernel_rfl) L (HP3.out.row.fresh hF3) G1 1 (k, .slice A5 nz c5) (by kernel_rfl) hu0 hu1 rfl HLL.out (by decide) (by have := HRW.out; omega) ?_
          intro A8 c8 x4 hro hg4 hm4
          refine hK.out _ _ trivial (fun _ => ?_)
          clear hK K hu0 hu1
          simp only [Act.put, List.setIfInBounds_toArray, List.set_cons_zero, List.set_cons_succ]
          refine reg_one (i := 9) (o := ?o_18) (listed' := #[true, true, true, true, true, true, true, true, true, true]) HO ?hi_18 ?hr_18 (by kernel_rfl) ?hw_18 (fun K hK => ?_)
          case hi_18 => (simp only [List.getElem?_toArray, List.getElem?_cons_succ, List.getElem?_cons_zero]; rfl)
          case hr_18 => kernel_rfl
          case hw_18 => rfl
          obtain ⟨hst, hfin⟩ := HFIN.out x3 hF3 A5 c5 hr3 A8 c8 x4 hro hg4 hm4
          have hst1 := hst.1
          have hst2 := hst.2
          go_simp
          refine hK.out _ _ trivial (fun _ => ?_)
          clear hK K
          refine reg_done HO HQ (by kernel_rfl) ?_
          have HZ := Go.Lib.hid hfin
          clear hfin hst hst1 hst2 hro hg4 hm4 HO HQ hQP hSel
          generalize x4.setCell ⟨p2, 0, none⟩ (.slice A8 (L.length + 1) c8) = xz at *
          go_wp2_with (fail)
          go_roundw
          case rel => exact ⟨_, _, HZ.out.1⟩
          case measure => exact HZ.out.2
        case way2_12 =>
          refine wp_append_bts _ (.tmp 24) (.tmp 25) 24 24 rfl w3.heap.size i0 Try.underlying24 Try.underlying24 hi hz0 hz1 hz2 (.slice (some ⟨G0, 0, none⟩) 0 0) (.slice Az nz cz) (by kernel_rfl) (by kernel_rfl) [] dk hr1 (HB0.out.fresh hF1) (by have := HDL.out; have := HNZ.out; simp; omega) hF1.size ?_
          intro A5 c5 x2 hr2 hg2 hm2
          have eN : ([] : List Nat).length + dk.length = nz := by simp [HNZ.out]
          rw [eN] at hr2 hm2 ⊢
          rw [List.nil_append] at hr2
          have hF2 : Fresh w3 x2 := hF1.trans (Kept.of_grown hg2) (fun j hj h => by simp [Value.ownBlock] at h; omega)
          refine hK.out _ _ trivial (fun _ => ?_)
          clear hK K hg2 hm2 hr1 hsz1
          simp only [Act.put, List.setIfInBounds_toArray, List.set_cons_zero, List.set_cons_succ]
          refine reg_take (i := 6) (oi := ?o_19) (v := ?v_19) (listed' := #[false, true, true, true, true, true, true, false, false, false]) HO ?hi_19 hSel ?hf_19 ?hr_19 hQP (by kernel_rfl) ?hw_19 ?h_19 trivial ?_
          case hi_19 => (simp only [List.getElem?_toArray, List.getElem?_cons_succ, List.getElem?_cons_zero]; rfl)
          case hf_19 => kernel_rfl
          case hr_19 => kernel_rfl
          case hw_19 => rfl
          case h_19 => (intro W hSw; go_simp; first | done | with_reducible rfl)
          (try simp only [Act.put]); (try simp only [List.setIfInBounds_toArray]); (try simp only [List.set_cons_zero]); (try simp only [List.set_cons_succ])
          refine reg_two (i := 0) (j := 7) (oi := ?o_20) (oj := ?o_21) (li := #[true, true, true, true, true, true, true, false, false, false]) (lj := #[false, true, true, true, true, true, true, true, false, false]) HO ?hi_20 ?hi_21 ?hr_20 (by kernel_rfl) (by kernel_rfl) ?hw_20 ?hw_21 (fun K hK => ?way1_20) (fun K hK => ?way2_20)
          case hi_20 => (simp only [List.getElem?_toArray, List.getElem?_cons_zero]; rfl)
          case hi_21 => (simp only [List.getElem?_toArray, List.getElem?_cons_succ, List.getElem?_cons_zero]; rfl)
          case hr_20 => kernel_rfl
          case hw_20 => rfl
          case hw_21 => rfl
          case way1_20 =>
            skip
            have hc2 : x2.cell? ⟨p2, 0, none⟩ = some v := hF2.held HC3.out (fun h => h)
            go_simp
            refine hK.out _ _ trivial (fun _ => ?_)
            clear hK K hc2
            refine reg_one (i := 7) (o := ?o_22) (listed' := #[true, true, true, true, true, true, true, true, false, false]) HO ?hi_22 ?hr_22 (by kernel_rfl) ?hw_22 (fun K hK => ?_)
            case hi_22 => (simp only [List.getElem?_toArray, List.getElem?_cons_succ, List.getElem?_cons_zero]; rfl)
            case hr_22 => kernel_rfl
            case hw_22 => rfl
            go_simp
            have hG3 : Fresh x2 (x2.alloc (.cells #[.int .i64 (k : Int), .slice A5 nz c5] 61)) := (Kept.refl x2 (fun _ => False)).alloc _
            have hu0 := cell_of_row (x2.alloc (.cells #[.int .i64 (k : Int), .slice A5 nz c5] 61)) x2.heap.size 0 _ _ _ (heap_alloc_new x2 _)
            have hu1 := cell_of_row (x2.alloc (.cells #[.int .i64 (k : Int), .slice A5 nz c5] 61)) x2.heap.size 1 _ _ _ (heap_alloc_new x2 _)
            have hF3 := hF2.fresh hG3
            have hr3 := hr2.fresh hG3
            refine hK.out _ _ trivial (fun _ => ?_)
            clear hK K hG3
            generalize x2.alloc (.cells #[.int .i64 (k : Int), .slice A5 nz c5] 61) = x3 at *
            generalize x2.heap.size = G1 at *
            refine reg_one (i := 8) (o := ?o_23) (listed' := #[true, true, true, true, true, true, true, true, true, false]) HO ?hi_23 ?hr_23 (by kernel_rfl) ?hw_23 (fun K hK => ?_)
            case hi_23 => (simp only [List.getElem?_toArray, List.getElem?_cons_succ, List.getElem?_cons_zero]; rfl)
            case hr_23 => kernel_rfl
            case hw_23 => rfl
            have hsz3 := hF3.size
            refine wp_append_opt _ (.tmp 21) (.tmp 28) 51 rfl 61 (rb + 1) i1 (.agg #[.int .i64 0, .slice none 0 0]) 32 Try.underlying51 hi1 hy0 (by decide) hy1 hy2 v (by kernel_rfl) L (HP3.out.row.fresh hF3) G1 1 (k, .slice A5 nz c5) (by kernel_rfl) hu0 hu1 rfl HLL.out (by decide) (by have := HRW.out; omega) ?_
            intro A8 c8 x4 hro hg4 hm4
            refine hK.out _ _ trivial (fun _ => ?_)
            clear hK K hu0 hu1
            simp only [Act.put, List.setIfInBounds_toArray, List.set_cons_zero, List.set_cons_succ]
            refine reg_one (i := 9) (o := ?o_24) (listed' := #[true, true, true, true, true, true, true, true, true, true]) HO ?hi_24 ?hr_24 (by kernel_rfl) ?hw_24 (fun K hK => ?_)
            case hi_24 => (simp only [List.getElem?_toArray, List.getElem?_cons_succ, List.getElem?_cons_zero]; rfl)
            case hr_24 => kernel_rfl
            case hw_24 => rfl
            obtain ⟨hst, hfin⟩ := HFIN.out x3 hF3 A5 c5 hr3 A8 c8 x4 hro hg4 hm4
            have hst1 := hst.1
            have hst2 := hst.2
            go_simp
            refine hK.out _ _ trivial (fun _ => ?_)
            clear hK K
            refine reg_done HO HQ (by kernel_rfl) ?_
            have HZ := Go.Lib.hid hfin
            clear hfin hst hst1 hst2 hro hg4 hm4 HO HQ hQP hSel
            generalize x4.setCell ⟨p2, 0, none⟩ (.slice A8 (L.length + 1) c8) = xz at *
            go_wp2_with (fail)
            go_roundw
            case rel => exact ⟨_, _, HZ.out.1⟩
            case measure => exact HZ.out.2
          case way2_20 =>
            go_simp
            have hG3 : Fresh x2 (x2.alloc (.cells #[.int .i64 (k : Int), .slice A5 nz c5] 61)) := (Kept.refl x2 (fun _ => False)).alloc _
            have hu0 := cell_of_row (x2.alloc (.cells #[.int .i64 (k : Int), .slice A5 nz c5] 61)) x2.heap.size 0 _ _ _ (heap_alloc_new x2 _)
            have hu1 := cell_of_row (x2.alloc (.cells #[.int .i64 (k : Int), .slice A5 nz c5] 61)) x2.heap.size 1 _ _ _ (heap_alloc_new x2 _)
            have hF3 := hF2.fresh hG3
            have hr3 := hr2.fresh hG3
            refine hK.out _ _ trivial (fun _ => ?_)
            clear hK K hG3
            generalize x2.alloc (.cells #[.int .i64 (k : Int), .slice A5 nz c5] 61) = x3 at *
            generalize x2.heap.size = G1 at *
            refine reg_one (i := 0) (o := ?o_25) (listed' := #[true, true, true, true, true, true, true, true, false, false]) HO ?hi_25 ?hr_25 (by kernel_rfl) ?hw_25 (fun K hK => ?_)
            case hi_25 => (simp only [List.getElem?_toArray, List.getElem?_cons_zero]; rfl)
            case hr_25 => kernel_rfl
            case hw_25 => rfl
            have hc3 : x3.cell? ⟨p2, 0, none⟩ = some v := hF3.held HC3.out (fun h => h)
            go_simp
            refine hK.out _ _ trivial (fun _ => ?_)
            clear hK K hc3
            refine reg_one (i := 8) (o := ?o_26) (listed' := #[true, true, true, true, true, true, true, true, true, false]) HO ?hi_26 ?hr_26 (by kernel_rfl) ?hw_26 (fun K hK => ?_)
            case hi_26 => (simp only [List.getElem?_toArray, List.getElem?_cons_succ, List.getElem?_cons_zero]; rfl)
            case hr_26 => kernel_rfl
            case hw_26 => rfl
            have hsz3 := hF3.size
            refine wp_append_opt _ (.tmp 21) (.tmp 28) 51 rfl 61 (rb + 1) i1 (.agg #[.int .i64 0, .slice none 0 0]) 32 Try.underlying51 hi1 hy0 (by decide) hy1 hy2 v (by kernel_rfl) L (HP3.out.row.fresh hF3) G1 1 (k, .slice A5 nz c5) (by kernel_rfl) hu0 hu1 rfl HLL.out (by decide) (by have := HRW.out; omega) ?_
            intro A8 c8 x4 hro hg4 hm4
            refine hK.out _ _ trivial (fun _ => ?_)
            clear hK K hu0 hu1
            simp only [Act.put, List.setIfInBounds_toArray, List.set_cons_zero, List.set_cons_succ]
            refine reg_one (i := 9) (o := ?o_27) (listed' := #[true, true, true, true, true, true, true, true, true, true]) HO ?hi_27 ?hr_27 (by kernel_rfl) ?hw_27 (fun K hK => ?_)
            case hi_27 => (simp only [List.getElem?_toArray, List.getElem?_cons_succ, List.getElem?_cons_zero]; rfl)
            case hr_27 => kernel_rfl
            case hw_27 => rfl
            obtain ⟨hst, hfin⟩ := HFIN.out x3 hF3 A5 c5 hr3 A8 c8 x4 hro hg4 hm4
            have hst1 := hst.1
            have hst2 := hst.2
            go_simp
            refine hK.out _ _ trivial (fun _ => ?_)
            clear hK K
            refine reg_done HO HQ (by kernel_rfl) ?_
            have HZ := Go.Lib.hid hfin
            clear hfin hst hst1 hst2 hro hg4 hm4 HO HQ hQP hSel
            generalize x4.setCell ⟨p2, 0, none⟩ (.slice A8 (L.length + 1) c8) = xz at *
            go_wp2_with (fail)
            go_roundw
            case rel => exact ⟨_, _, HZ.out.1⟩
            case measure => exact HZ.out.2
end Go.Proofs.Ytahcaoenddapoaa
