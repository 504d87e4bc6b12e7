/- Int.scan, Int.SetString. -/
import Derived.Test.YthmopakaikhjlaaGreatDoorScn
namespace Go.Proofs.YthmopakaikhjlaaGreatDoor
open Go.RowKit

/-- The big.Int in the block ib. -/
structure Big (w : World) (ib : Nat) (neg : Bool) (v : Value) : Prop where
  c0 : w.cell? ⟨ib, 0, none⟩ = some (.bool neg)
  c1 : w.cell? ⟨ib, 1, none⟩ = some v
  f : ∀ j, w.frozen? ⟨ib, j, none⟩ = false
  b : ∃ cs T, w.heap[ib]? = some (.cells cs T (0, 0))

theorem Big.lt {w : World} {ib : Nat} {neg : Bool} {v : Value} (h : Big w ib neg v) : ib < w.heap.size := World.block_lt_of_cell? w _ h.c0
theorem Big.kept {w w' : World} {ib : Nat} {neg : Bool} {v : Value} {S : Nat → Prop} (h : Big w ib neg v) (hk : Kept w w' S) (hS : ¬ S ib) : Big w' ib neg v :=
  ⟨hk.held h.c0 hS, hk.held h.c1 hS, fun j => (hk.frozen (p := ⟨ib, j, none⟩) h.lt hS).trans (h.f j), by obtain ⟨cs, T, hb⟩ := h.b; exact ⟨cs, T, (hk.block ib h.lt hS).trans hb⟩⟩
theorem Big.set1 {w : World} {ib : Nat} {neg : Bool} {v : Value} (h : Big w ib neg v) (u : Value) : Big (w.setCell ⟨ib, 1, none⟩ u) ib neg u :=
  ⟨by rw [World.cell?_setCell_other _ _ _ _ (by intro e; injection e with e1 e2; omega)]; exact h.c0, World.cell?_setCell_same _ _ _ h.c1, fun j => by rw [World.frozen?_setCell]; exact h.f j, by obtain ⟨cs, T, hb⟩ := h.b; exact ⟨_, T, heap_setCell_same w ib 1 cs T u hb⟩⟩
theorem Big.set0 {w : World} {ib : Nat} {neg : Bool} {v : Value} (h : Big w ib neg v) (b : Bool) : Big (w.setCell ⟨ib, 0, none⟩ (.bool b)) ib b v :=
  ⟨World.cell?_setCell_same _ _ _ h.c0, by rw [World.cell?_setCell_other _ _ _ _ (by intro e; injection e with e1 e2; omega)]; exact h.c1, fun j => by rw [World.frozen?_setCell]; exact h.f j, by obtain ⟨cs, T, hb⟩ := h.b; exact ⟨_, T, heap_setCell_same w ib 0 cs T (.bool b) hb⟩⟩

/-- A text of a number: perhaps a sign, and digits. -/
structure Numb (s : ByteArray) (neg : Bool) (ds : List Nat) : Prop where
  d : Digs s (if neg then 1 else 0) ds
  ne : 0 < ds.length
  sg : neg = true → ∀ h : 0 < s.size, s[0].toNat = 45

/-- The sign has been taken in. -/
theorem sign_any (rd : Nat) (s : ByteArray) (neg : Bool) (ds : List Nat) (hn : Numb s neg ds) (w : World) (h : Rdr w rd s 0) :
    Calls Tryz.prog 70 #[.iface 96 (.pointer (some ⟨rd, 0, none⟩))] w fun e w' => e = .returned (.tuple #[.bool neg, .nilIface]) ∧ Rdr w' rd s (if neg then 1 else 0) ∧ Kept w w' (fun k => k = rd) := by
  have hsz := hn.d.size
  have hf := hn.d.few
  have hne := hn.ne
  cases neg with
  | true =>
    have h0 : 0 < s.size := by omega
    refine (signNeg_any rd s w h h0 (by simp at hsz; omega) (hn.sg rfl h0)).mono ?_
    rintro e w' ⟨rfl, h1, h2⟩
    exact ⟨rfl, h1, h2⟩
  | false =>
    have h0 : 0 < s.size := by omega
    have hb := hn.d.at_ 0 hn.ne (by simp; exact h0)
    have hd := hn.d.le _ (List.getElem_mem hn.ne)
    refine (signPos_any rd _ s w h h0 (by simp at hsz; omega) hb (by omega) (by omega)).mono ?_
    rintro e w' ⟨rfl, h1, h2⟩
    exact ⟨rfl, h1, h2⟩

theorem Nt.lower {w : World} {lo lo' : Nat} {v : Value} {L : List Nat} (h : Nt w lo v L) (hl : lo' ≤ lo) : Nt w lo' v L := by
  refine ⟨?_, h.2⟩
  rcases h.1 with h0 | ⟨g, C, n, h1, h2, h3⟩
  · exact .inl h0
  · exact .inr ⟨g, C, n, h1, Nat.le_trans hl h2, h3⟩

set_option maxRecDepth 100000 in
set_option maxHeartbeats 1000000 in
theorem intScan_any (ib rd : Nat) (eb : Addr) (s : ByteArray) (neg : Bool) (ds : List Nat) (hn : Numb s neg ds) (w : World) (h : Rdr w rd s 0) (hB : Big w ib false (.slice none 0 0)) (he : w.cell? ⟨2, 0, none⟩ = some (eofV eb)) (h2 : rd ≠ 2) (hi : ib ≠ rd) :
    Calls Tryz.prog 64 #[.pointer (some ⟨ib, 0, none⟩), .iface 96 (.pointer (some ⟨rd, 0, none⟩)), .int .i64 10] w fun e w' => e = .returned (.tuple #[.pointer (some ⟨ib, 0, none⟩), .int .i64 10, .nilIface]) ∧ ∃ v L, Nt w' w.heap.size v L ∧ Val L ds ∧ Big w' ib (decide (0 < L.length) && neg) v ∧ Rdr w' rd s s.size ∧ Kept w w' (fun k => k = rd ∨ k = ib) := by
  have HS := Go.Lib.hid (sign_any rd s neg ds hn w h)
  have HB := Go.Lib.hid hB
  have HN := Go.Lib.hid hn
  have HE := Go.Lib.hid he
  clear h hB hn he
  go_enter Tryz.func64, Tryz.ntmps64
  go_wp2_with (fail)
  refine HS.out.mono ?_
  rintro e w1 ⟨rfl, hr, hk⟩
  have hb1 := HB.out.kept hk hi
  have he1 := hk.held HE.out (fun e => h2 e.symm)
  have H71 := Go.Lib.hid (scan_any rd (if neg then 1 else 0) eb s ds HN.out.d HN.out.ne w1 hr he1 h2)
  have c1 := hb1.c1
  have HB1 := Go.Lib.hid hb1
  have HK1 := Go.Lib.hid hk
  clear hb1 he1 hr hk
  go_wp2_with (fail)
  refine H71.out.mono ?_
  rintro e w2 ⟨v, L, n, rfl, hnt, hv, hr, hk⟩
  have hb2 := HB1.out.kept hk hi
  obtain ⟨A, c, rfl, hc⟩ := hnt.slice
  have H2 := Go.Lib.hid (And.intro hnt (And.intro hv (And.intro hr (And.intro (HK1.out.trans hk (fun _ _ h => h)) hb2))))
  have hq1 := hb2.c1
  have f1 := hb2.f 1
  have hi1 : ib < w1.heap.size := HB1.out.lt
  have hw1 := HK1.out.size
  clear hnt hv hr hk hb2 c1
  go_upto_region 5 with (fail)
  have hb3 := H2.out.2.2.2.2.set1 (.slice A L.length c)
  have hk3 : Kept w2 (w2.setCell ⟨ib, 1, none⟩ (.slice A L.length c)) (fun k => k = ib) := (Kept.refl w2 (fun k => k = ib)).setCell (p := ⟨ib, 1, none⟩) (.inl rfl) _
  have HB3 := Go.Lib.hid hb3
  have HK3 := Go.Lib.hid hk3
  have hnl := H2.out.1.kept hk3 (fun k hk e => by have := H2.out.1.block k hk; omega)
  have HNL := Go.Lib.hid hnl
  clear hq1 f1 hb3 hk3 hnl
  generalize w2.setCell ⟨ib, 1, none⟩ (.slice A L.length c) = w3 at *
  have d0 := HB3.out.c0
  have d1 := HB3.out.c1
  have f0 := HB3.out.f 0
  have hKw : Kept w w3 (fun k => k = rd ∨ k = ib) := (H2.out.2.2.2.1.mono (fun _ _ h => .inl h)).trans HK3.out (fun _ _ h => .inr h)
  have HKW := Go.Lib.hid hKw
  have HRD := Go.Lib.hid (H2.out.2.2.1.kept HK3.out (fun e => hi e.symm))
  clear hKw
  have hfin : ∀ b, b = (decide (0 < L.length) && neg) → Nt (w3.setCell ⟨ib, 0, none⟩ (.bool b)) w.heap.size (.slice A L.length c) L ∧ Val L ds ∧ Big (w3.setCell ⟨ib, 0, none⟩ (.bool b)) ib (decide (0 < L.length) && neg) (.slice A L.length c) ∧ Rdr (w3.setCell ⟨ib, 0, none⟩ (.bool b)) rd s s.size ∧ Kept w (w3.setCell ⟨ib, 0, none⟩ (.bool b)) (fun k => k = rd ∨ k = ib) := by
    intro b hb
    subst hb
    have hk4 : Kept w3 (w3.setCell ⟨ib, 0, none⟩ (.bool (decide (0 < L.length) && neg))) (fun k => k = ib) := (Kept.refl w3 (fun k => k = ib)).setCell (p := ⟨ib, 0, none⟩) (.inl rfl) _
    exact ⟨(HNL.out.kept hk4 (fun k hk e => by have := HNL.out.block k hk; omega)).lower hw1, H2.out.2.1, HB3.out.set0 _, HRD.out.kept hk4 (fun e => hi e.symm), HKW.out.trans hk4 (fun _ _ h => .inr h)⟩
  have HFIN := Go.Lib.hid hfin
  clear hfin
  obtain ⟨n1, hn1⟩ : ∃ n, L.length = n := ⟨_, rfl⟩
  rw [hn1] at HFIN d1 ⊢
  have HN1 := Go.Lib.hid hn1
  clear hn1 hc
  by_cases hL : 0 < n1
  · have e0 : (0 : Int) < (n1 : Int) := by omega
    have e1 : decide ((0 : Int) < (n1 : Int)) = true := by simpa using hL
    have e2 : decide (0 < n1) = true := by simpa using hL
    rw [e2, Bool.true_and] at HFIN
    go_wp2
    refine bodyPost_ret (v := .tuple #[.pointer (some ⟨ib, 0, none⟩), .int .i64 10, .nilIface]) (by simp [results, Tryz.results64, go_sem]) rfl ⟨rfl, .slice A n1 c, L, ?_⟩
    rw [HN1.out, e2, Bool.true_and]
    exact HFIN.out neg rfl
  · have e0 : ¬ (0 : Int) < (n1 : Int) := by omega
    have e1 : decide ((0 : Int) < (n1 : Int)) = false := by simpa using hL
    have e2 : decide (0 < n1) = false := by simpa using hL
    rw [e2, Bool.false_and] at HFIN
    go_wp2
    refine bodyPost_ret (v := .tuple #[.pointer (some ⟨ib, 0, none⟩), .int .i64 10, .nilIface]) (by simp [results, Tryz.results64, go_sem]) rfl ⟨rfl, .slice A n1 c, L, ?_⟩
    rw [HN1.out, e2, Bool.false_and]
    exact HFIN.out false rfl

set_option maxRecDepth 100000 in
set_option maxHeartbeats 1000000 in
theorem fromScan_any (ib rd : Nat) (eb : Addr) (s : ByteArray) (neg : Bool) (ds : List Nat) (hn : Numb s neg ds) (w : World) (h : Rdr w rd s 0) (hB : Big w ib false (.slice none 0 0)) (he : w.cell? ⟨2, 0, none⟩ = some (eofV eb)) (h2 : rd ≠ 2) (hi : ib ≠ rd) (hi2 : ib ≠ 2) :
    Calls Tryz.prog 56 #[.pointer (some ⟨ib, 0, none⟩), .iface 96 (.pointer (some ⟨rd, 0, none⟩)), .int .i64 10] w fun e w' => e = .returned (.tuple #[.pointer (some ⟨ib, 0, none⟩), .bool true]) ∧ ∃ v L, Nt w' w.heap.size v L ∧ Val L ds ∧ Big w' ib (decide (0 < L.length) && neg) v ∧ Kept w w' (fun k => k = rd ∨ k = ib) := by
  have hen := enter151
  have hme := methReadByte
  have hqe := eofNeq eb
  have hrlt := h.lt
  have HS := Go.Lib.hid (intScan_any ib rd eb s neg ds hn w h hB he h2 hi)
  have HE := Go.Lib.hid he
  clear h hB hn he
  go_enter Tryz.func56, Tryz.ntmps56
  go_wp2_with (fail)
  refine HS.out.mono ?_
  rintro e w1 ⟨rfl, v, L, hnt, hv, hb, hr, hk⟩
  have he1 := hk.held HE.out (fun e => by rcases e with e | e; exact h2 e.symm; exact hi2 e.symm)
  have HR := Go.Lib.hid (readEof_any rd s.size eb s w1 hr (Nat.le_refl _) he1 h2)
  have HA := Go.Lib.hid (And.intro hnt (And.intro hv (And.intro hb hk)))
  have HE1 := Go.Lib.hid he1
  clear hnt hv hb hr hk he1
  go_wp2_with (fail)
  refine HR.out.mono ?_
  rintro e w2 ⟨rfl, hr2, hk2⟩
  have he2 := hk2.held HE1.out (fun e => h2 e.symm)
  unfold eofV at he2
  have HK2 := Go.Lib.hid hk2
  clear hr2 hk2
  unfold eofV
  go_wp2
  refine bodyPost_ret (v := .tuple #[.pointer (some ⟨ib, 0, none⟩), .bool true]) (by simp [results, Tryz.results56, go_sem]) rfl ⟨rfl, v, L, ?_⟩
  exact ⟨HA.out.1.kept HK2.out (fun k hk e => by have := HA.out.1.block k hk; omega), HA.out.2.1, HA.out.2.2.1.kept HK2.out hi, HA.out.2.2.2.trans HK2.out (fun _ _ h => .inl h)⟩

set_option maxRecDepth 100000 in
set_option maxHeartbeats 1000000 in
theorem setString_any (ib : Nat) (eb : Addr) (s : ByteArray) (neg : Bool) (ds : List Nat) (hn : Numb s neg ds) (w : World) (hB : Big w ib false (.slice none 0 0)) (he : w.cell? ⟨2, 0, none⟩ = some (eofV eb)) (hi2 : ib ≠ 2) :
    Calls Tryz.prog 44 #[.pointer (some ⟨ib, 0, none⟩), .string s, .int .i64 10] w fun e w' => e = .returned (.tuple #[.pointer (some ⟨ib, 0, none⟩), .bool true]) ∧ ∃ v L, Nt w' w.heap.size v L ∧ Val L ds ∧ Big w' ib (decide (0 < L.length) && neg) v ∧ Kept w w' (fun k => k = ib) := by
  have h2 : 2 < w.heap.size := World.block_lt_of_cell? w _ he
  have hil := hB.lt
  have HB := Go.Lib.hid hB
  have HE := Go.Lib.hid he
  have HN := Go.Lib.hid hn
  clear hB he hn
  go_enter Tryz.func44, Tryz.ntmps44
  go_wp2_with (fail)
  refine (newReader_any s w).mono ?_
  rintro e w1 ⟨rfl, hr, hF⟩
  have H56 := Go.Lib.hid (fromScan_any ib w.heap.size eb s neg ds HN.out w1 hr (HB.out.kept hF (fun h => h)) (hF.held HE.out (fun h => h)) (by omega) (by omega) hi2)
  have HF := Go.Lib.hid hF
  clear hr hF
  go_wp2_with (fail)
  refine H56.out.mono ?_
  rintro e w2 ⟨rfl, v, L, hnt, hv, hb, hk⟩
  have HA := Go.Lib.hid (And.intro (hnt.lower HF.out.size) (And.intro hv (And.intro hb ((HF.out.mono (S := fun k => k = ib) (fun _ _ h => h.elim)).trans hk (fun k hk e => by rcases e with e | e; omega; exact e)))))
  clear hnt hv hb hk
  go_wp2
  refine bodyPost_ret (v := .tuple #[.pointer (some ⟨ib, 0, none⟩), .bool true]) (by simp [results, Tryz.results44, go_sem]) rfl ⟨rfl, v, L, HA.out⟩
end Go.Proofs.YthmopakaikhjlaaGreatDoor
