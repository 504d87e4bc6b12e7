/- BeginRead, readAll: a whole message. -/
import Derived.Test.YtahcaoenddapoaaReadM
namespace Go.Proofs.Ytahcaoenddapoaa
open Go.RowKit

set_option maxRecDepth 100000 in
set_option maxHeartbeats 1000000 in
theorem beginRead_any (base g hb bb ps o n rpos rsize rtyp typ : Nat) (fin : Bool) (L D T : List Nat) (w : World) (hI : In w base g hb bb ps o n rpos rsize fin rtyp L D) (hS : Str ps typ false D T)
    (hps : ps ≤ 32767) (hpn : ps < n) (hn : n ≤ 100000) :
    Calls Try.prog 81 #[.pointer (some ⟨g, 0, none⟩)] w fun e w' => e = .returned (.tuple #[.int .u8 (typ : Int), .nilIface]) ∧ Rd w' base g hb bb ps o n typ T ∧ Kept w w' (InS g hb bb) := by
  obtain ⟨st, seq, pay, F, M', hst, hy0, hyp, hDD, hMM, hS'⟩ : ∃ st seq pay F M', st < 256 ∧ 0 < pay.length ∧ pay.length + 8 ≤ ps ∧ D = pack typ st seq pay ++ F ∧ T = pay ++ M' ∧ Str ps typ (decide (st ≠ 0)) F M' := by
    cases hS with
    | more st seq pay F M' hs h0 hp h => exact ⟨st, seq, pay, F, M', hs, h0, hp, rfl, rfl, h⟩
  have HD := Go.Lib.hid hDD
  have HM := Go.Lib.hid hMM
  clear hDD hS hMM
  go_enter Try.func81, Try.ntmps81
  go_wp2_with (fail)
  refine (next_any base g hb bb ps o n rpos rsize rtyp fin L D _ hI typ st seq pay F HD.out hst hy0 hyp hps hpn hn).mono ?_
  rintro e W1 ⟨rfl, L1, I1, hq, K1⟩
  have c10 := I1.c10
  have HR : Rd W1 base g hb bb ps o n typ T := ⟨8, pay.length + 8, _, _, L1, F, M', pay, I1, hS', by omega, hyp, by rw [Nat.add_sub_cancel]; exact hq, HM.out⟩
  have HRh := Go.Lib.hid HR
  clear HR I1 hq
  go_wp2
  go_ret2
  exact ⟨rfl, HRh.out, K1⟩

theorem In.kept {w w' : World} {base g hb bb ps o n rpos rsize rtyp : Nat} {fin : Bool} {L D : List Nat} {S : Nat → Prop} (h : In w base g hb bb ps o n rpos rsize fin rtyp L D) (hk : Kept w w' S) (hS : ∀ k, S k → bb < k ∧ k ≠ g ∧ k ≠ hb) : In w' base g hb bb ps o n rpos rsize fin rtyp L D :=
  have hg : ¬ S g := fun e => (hS g e).2.1 rfl
  have c := fun (j : Nat) {u : Value} (hc : w.cell? ⟨g, j, none⟩ = some u) => hk.held (p := ⟨g, j, none⟩) hc hg
  ⟨c 0 h.c0, c 1 h.c1, c 6 h.c6, c 7 h.c7, c 8 h.c8, c 9 h.c9, c 10 h.c10, fun j => (hk.frozen (p := ⟨g, j, none⟩) h.lt hg).trans (h.frz j), h.blk.kept hk (fun e => (hS hb e).2.2 rfl), h.len,
    h.src.kept hk (fun k e => Or.inr (Or.inr (Nat.le_of_lt (hS k e).1))) (fun e => by have := (hS bb e).1; omega), h.n1, h.n2, h.n3, h.b1, h.b2, h.b3⟩
theorem Rd.kept {w w' : World} {base g hb bb ps o n typ : Nat} {R : List Nat} {S : Nat → Prop} (h : Rd w base g hb bb ps o n typ R) (hk : Kept w w' S) (hS : ∀ k, S k → bb < k ∧ k ≠ g ∧ k ≠ hb) : Rd w' base g hb bb ps o n typ R := by
  obtain ⟨a1, a2, a3, a4, a5, a6, a7, a8, a9, a10⟩ := h
  exact ⟨a1, a2, a3, a4, a5, a6, a7, a8, a9.kept hk hS, a10⟩

theorem eqEof (W : World) : (binOp .eql 64 (.iface 153 (.string ⟨#[69, 79, 70]⟩)) (.iface 153 (.string ⟨#[69, 79, 70]⟩))).run Try.prog W = .ok (.bool true) W := by kernel_rfl
theorem eqNil (W : World) : (binOp .eql 64 .nilIface (.iface 153 (.string ⟨#[69, 79, 70]⟩))).run Try.prog W = .ok (.bool false) W := by kernel_rfl

theorem methRead111 (x : Value) (W : World) : (method 389 111 x "Read").run Try.prog W = .ok (216, x) W := by kernel_rfl
theorem enter216 (args : Array Value) (W : World) : (callFunc 216 args).run Try.prog W = .ok (.enter 216 args) W := run_enter Try.func216 (by kernel_rfl) (by kernel_rfl) args W

def lenOf : Value → Nat
  | .slice _ n _ => n
  | _ => 0

/-- Where readAll's loop stands: p bytes are read. -/
structure RAt (w wr : World) (base g hb bb ps o n typ X b0 : Nat) (T : List Nat) (v : Value) (p : Nat) : Prop where
  le : p ≤ T.length
  row : Row b0 wr v (T.take p)
  rd : Rd wr base g hb bb ps o n typ (T.drop p)
  buf : ∃ B, Blk wr X B ∧ B.length = 512
  kept : Kept w wr (InS g hb bb)
  size : b0 ≤ wr.heap.size

set_option maxRecDepth 100000 in
set_option maxHeartbeats 2000000 in
theorem readAll_any (base g hb bb ps o n typ : Nat) (T : List Nat) (w : World) (hR : Rd w base g hb bb ps o n typ T) (hps : ps ≤ 32767) (hpn : ps < n) (hn : n ≤ 100000) (hT : T.length ≤ 1000000) (hg : g < w.heap.size) (hh : hb < w.heap.size) (hbb : bb < w.heap.size) :
    Calls Try.prog 82 #[.iface 111 (.pointer (some ⟨g, 0, none⟩))] w fun e w' => ∃ v, e = .returned (.tuple #[v, .nilIface]) ∧ Row w.heap.size w' v T ∧ Kept w w' (InS g hb bb) := by
  obtain ⟨i0, hi, hz0, hz1, hz2⟩ := info_parts info5
  have hme := methRead111
  have hen := enter216
  have hq1 := eqEof
  have hq2 := eqNil
  go_enter Try.func82, Try.ntmps82
  go_wp2_with (at_make; refine wpList_make_full _ rfl _ _ 24 rfl w.heap.size 5 i0 (.int .u8 0) 1 Try.underlying24 hi hz0 hz1 .i64 .i64 _ _ 512 rfl rfl (by omega) (by omega) (by rw [hz2]; omega) (by unfold maxLen; omega) (Nat.le_refl _) ?_; intro w1 hown hgr)
  have hF1 : Fresh w w1 := (Kept.of_grown hgr).mono (fun _ _ h => by cases h)
  have hr1 : Row w.heap.size w1 (.slice (some ⟨w.heap.size, 0, none⟩) 512 512) (List.replicate 512 0) :=
    RowK.of_own hown (by rw [Nat.mul_one]; show (madeCells #[.int .u8 0] 512).toList = _; rw [toList_madeCells_one]; simp [ints]) rfl
  have hB := hr1.blk
  have hs := hB.lt
  have hRat : RAt w w1 base g hb bb ps o n typ w.heap.size w1.heap.size T (.slice none 0 0) 0 := ⟨Nat.zero_le _, RowK.nil _ _, by
    obtain ⟨a1, a2, a3, a4, a5, a6, a7, a8, a9, a10⟩ := hR
    exact ⟨a1, a2, a3, a4, a5, a6, a7, a8, a9.fresh hF1, a10⟩, ⟨_, hB, by simp⟩, hF1.mono (fun _ _ h => h.elim), Nat.le_refl _⟩
  clear hown hgr hr1 hB
  go_wp2_with (fail)
  go_loopw [2] (fun v wr => ∃ (p : Nat) (A : Option Addr) (c : Nat), v = .slice A p c ∧ RAt w wr base g hb bb ps o n typ w.heap.size w1.heap.size T v p) (fun v _ => T.length - lenOf v)
  case atStart => exact ⟨0, none, 0, rfl, hRat⟩
  case round =>
    obtain ⟨p, A, c, rfl, hA⟩ := hrel
    obtain ⟨B, hB, hBl⟩ := hA.buf
    have hAh := Go.Lib.hid hA
    clear hA hRat
    go_wp2_with (fail)
    have hbs := hs
    refine (read_any base g hb bb ps o n typ w.heap.size 512 512 B _ _ hAh.out.rd hB (by omega) (by decide) (by omega) (by omega) (by omega) hps hpn hn).mono ?_
    have hvb := hAh.out.row.block
    have hpT := hAh.out.le
    have hpl : (T.take p).length = p := by rw [List.length_take]; omega
    have HPL := Go.Lib.hid hpl
    clear hpl
    rintro e W2 (⟨hT0, rfl, hRd, hF⟩ | ⟨j, B', hj0, hjn, hjR, rfl, hB', hBl', htk, hRd, hK⟩)
    · have hr2 := hAh.out.row.fresh hF
      have hB2 := hB.fresh hF
      have hx := hB2.bts 0 0 512 (by omega) (by omega) (by unfold maxLen; omega)
      have hsz2 : w1.heap.size ≤ W2.heap.size := Nat.le_trans hAh.out.size hF.size
      have hlen : (T.take p).length + ([] : List Nat).length ≤ 140737488355328 := by rw [HPL.out]; simp; omega
      rw [List.take_zero] at hx
      have HX := Go.Lib.hid hx
      have HR2 := Go.Lib.hid hr2
      have HVB := Go.Lib.hid hvb
      clear hx hr2 hvb hRd hB2
      simp only [eof]
      go_wp2_with (at_builtin; refine wpList_append_bts _ rfl (.tmp 14) (.tmp 17) 24 24 rfl w1.heap.size i0 Try.underlying24 Try.underlying24 hi hz0 hz1 hz2 (.slice A p c) (.slice (some ⟨w.heap.size, 0, none⟩) 0 512) rfl rfl (T.take p) [] HR2.out HX.out hlen hsz2 ?_; intro A' c' W3 hr3 hg3 hm3)
      go_ret2
      have hr4 : Row w1.heap.size W3 (.slice A' p c') (T.take p) := by
        have h := hr3
        rw [HPL.out, List.append_nil] at h
        exact h
      have hTp : T.take p = T := by
        apply List.take_of_length_le
        have := congrArg List.length hT0
        rw [List.length_drop, List.length_nil] at this
        omega
      rw [hTp] at hr4
      refine ⟨_, rfl, hr4.lower (Nat.le_of_lt hs), ((hAh.out.kept.fresh hF)).trans (Kept.of_grown hg3) (fun k hk e => ?_)⟩
      have := (HVB.out k e).1
      omega
    · have hX1 : ¬ (w.heap.size = w.heap.size + 1) := by omega
      have nIn : ∀ k, w.heap.size ≤ k → ¬ InS g hb bb k := fun k hk e => by rcases e with e | e | e <;> omega
      have hr2 : Row w1.heap.size W2 (.slice A p c) (T.take p) := hAh.out.row.kept hK (fun k hk e => by
        have := (hvb k hk).1
        rcases e with e | e
        · omega
        · exact nIn k (by omega) e)
      have hx := hB'.bts 0 j 512 (by omega) (by omega) (by unfold maxLen; omega)
      rw [List.drop_zero, htk] at hx
      have hjl : ((T.drop p).take j).length = j := by rw [List.length_take]; omega
      rw [List.length_drop] at hjR
      have hsz2 : w1.heap.size ≤ W2.heap.size := Nat.le_trans hAh.out.size hK.size
      have hlen : (T.take p).length + ((T.drop p).take j).length ≤ 140737488355328 := by rw [HPL.out, hjl]; omega
      have i1 : ((j : Nat) : Int) ≤ 512 := by omega
      have HX := Go.Lib.hid hx
      have HR2 := Go.Lib.hid hr2
      have HVB := Go.Lib.hid hvb
      have HRD := Go.Lib.hid hRd
      have HJL := Go.Lib.hid hjl
      have K2 : Kept w W2 (InS g hb bb) := hAh.out.kept.trans hK (fun k hk e => e.elim (fun e => by omega) (fun e => e))
      clear hx hr2 hvb hRd hjl htk hX1
      go_wp2_with (at_builtin; refine wpList_append_bts _ rfl (.tmp 14) (.tmp 17) 24 24 rfl w1.heap.size i0 Try.underlying24 Try.underlying24 hi hz0 hz1 hz2 (.slice A p c) (.slice (some ⟨w.heap.size, 0, none⟩) j 512) rfl rfl (T.take p) ((T.drop p).take j) HR2.out HX.out hlen hsz2 ?_; intro A' c' W3 hr3 hg3 hm3)
      go_roundw
      case rel =>
        refine ⟨p + j, A', c', rfl, ?_⟩
        have hg' : ∀ k, (fun k => (Value.slice A p c).ownBlock = some k) k → bb < k ∧ k ≠ g ∧ k ≠ hb := fun k e => by have := (HVB.out k e).1; omega
        refine ⟨by omega, ?_, ?_, ⟨B', hB'.kept (Kept.of_grown hg3) (fun e => by have := (HVB.out _ e).1; omega), by omega⟩, K2.trans (Kept.of_grown hg3) (fun k hk e => by have := (HVB.out k e).1; omega), Nat.le_trans hsz2 hg3.size⟩
        · have h := hr3
          rw [HPL.out, HJL.out, ← List.take_add] at h
          exact h
        · have h := HRD.out.kept (Kept.of_grown hg3) hg'
          rw [List.drop_drop] at h
          exact h
      case measure =>
        simp [lenOf]
        have := HPL.out
        have := HJL.out
        omega
end Go.Proofs.Ytahcaoenddapoaa
