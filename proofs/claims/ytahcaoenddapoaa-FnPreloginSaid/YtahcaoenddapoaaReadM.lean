/- The reading half of a tdsBuffer: a message is read. -/
import Derived.Test.YtahcaoenddapoaaNext
import Derived.Test.YtahcaoenddapoaaStrm
namespace Go.Proofs.Ytahcaoenddapoaa
open Go.RowKit

/-- The buffer, with the message's rest R to be read. -/
def Rd (w : World) (base g hb bb ps o n typ : Nat) (R : List Nat) : Prop :=
  ∃ rpos rsize fin rtyp L D M q, In w base g hb bb ps o n rpos rsize fin rtyp L D ∧ Str ps typ fin D M ∧ rpos ≤ rsize ∧ rsize ≤ ps ∧ (L.drop (o + rpos)).take (rsize - rpos) = q ∧ R = q ++ M


def eof : Value := .iface 153 (.string ⟨#[69, 79, 70]⟩)

/-- What one Read gives: nothing and EOF at the end; else some bytes. -/
def Got (w w' : World) (base g hb bb ps o n typ X nX : Nat) (B R : List Nat) (e : Ending) : Prop :=
  (R = [] ∧ e = .returned (.tuple #[.int .i64 0, eof]) ∧ Rd w' base g hb bb ps o n typ [] ∧ Fresh w w') ∨
  ∃ j B', 0 < j ∧ j ≤ nX ∧ j ≤ R.length ∧ e = .returned (.tuple #[.int .i64 (j : Int), .nilIface]) ∧ Blk w' X B' ∧ B'.length = B.length ∧ B'.take j = R.take j ∧ Rd w' base g hb bb ps o n typ (R.drop j) ∧ Kept w w' (fun k => k = X ∨ InS g hb bb k)

set_option maxRecDepth 100000 in
set_option maxHeartbeats 4000000 in
theorem read_any (base g hb bb ps o n typ X nX cX : Nat) (B R : List Nat) (w : World) (hR : Rd w base g hb bb ps o n typ R) (hB : Blk w X B) (hnX : nX ≤ B.length) (h0 : 0 < nX) (hX1 : X ≠ g) (hX2 : X ≠ hb) (hX3 : bb < X)
    (hps : ps ≤ 32767) (hpn : ps < n) (hn : n ≤ 100000) :
    Calls Try.prog 216 #[.pointer (some ⟨g, 0, none⟩), .slice (some ⟨X, 0, none⟩) nX cX] w fun e w' => Got w w' base g hb bb ps o n typ X nX B R e := by
  obtain ⟨rpos, rsize, fin, rtyp, L, D, M, q, hI, hS, hp1, hp2, hq, rfl⟩ := hR
  obtain ⟨i0, hi, hz0, hz1, hz2⟩ := info_parts info5
  have hsz5 : (Try.prog.info? 5).map (·.size) = some 1 := by rw [hi]; simp [hz1]
  have c7 := hI.c7
  have c8 := hI.c8
  have c9 := hI.c9
  by_cases hlt : rpos < rsize
  · have ne : ¬ ((rpos : Nat) : Int) = ((rsize : Nat) : Int) := by omega
    go_enter Try.func216, Try.ntmps216
    go_wp2_with (fail)
    go_quiet (fail)
    generalize hW : World.drewN w _ = W
    have hF : Fresh w W := hW ▸ (Kept.refl w _).drewN _
    have KW : Kept w W (fun k => k = X ∨ InS g hb bb k) := hF.mono (fun _ _ h => h.elim)
    have I1 := hI.fresh hF
    have hBW := hB.fresh hF
    have hS' := hS
    have hq' := hq
    clear hW hF c7 c8 c9 hq hS
    have d6 := I1.c6
    have d7 := I1.c7
    have d8 := I1.c8
    have f7 := I1.frz 7
    have hll := I1.len
    have i1 : ((rpos : Nat) : Int) ≤ ((rsize : Nat) : Int) := by omega
    have i2 : ((rsize : Nat) : Int) ≤ (n : Int) := by omega
    have i3 : ¬ n = rpos := by omega
    have i4 : (0 : Int) ≤ ((rpos : Nat) : Int) := by omega
    have hql : q.length = rsize - rpos := by rw [← hq', List.length_take, List.length_drop]; omega
    have hqb : Bts W (.slice (some ⟨hb, o + rpos, none⟩) (rsize - rpos) (n - rpos)) q := by
      have := I1.blk.bts (o + rpos) (rsize - rpos) (n - rpos) (by omega) (by omega) (by unfold maxLen; omega)
      rw [hq'] at this
      exact this
    obtain ⟨cnt, hcnt⟩ : ∃ cnt, cnt = min q.length nX := ⟨_, rfl⟩
    have hc0 : 0 < cnt := by omega
    have hc1 : cnt ≤ nX := by omega
    have hc2 : cnt ≤ q.length := by omega
    have HC := Go.Lib.hid hcnt
    have HQL := Go.Lib.hid hql
    have hc3 : cnt + rpos ≤ rsize := by omega
    have I' := I1.fresh (Kept.refl W _).drew
    have HI' := Go.Lib.hid I'
    clear hcnt hql I'
    go_wp2_with (fail)
    go_still_tail 14, (by kernel_rfl)
    go_wp2_with (refine wpList_copy rfl (.tmp 24) (.tmp 37) 24 24 rfl Try.underlying24 hsz5 X 0 nX cX (.slice (some ⟨hb, o + rpos, none⟩) (rsize - rpos) (n - rpos)) rfl rfl q (hqb.fresh (Kept.refl W _).drew) B hBW.drew (by omega) cnt HC.out ?_; intro W2 K2 B2; have e7 := K2.held HI'.out.c7 (p := ⟨g, 7, none⟩) (Ne.symm hX1); have g7 := (K2.frozen (p := ⟨g, 7, none⟩) HI'.out.lt (Ne.symm hX1)).trans (HI'.out.frz 7))
    go_ret2
    have I2 : In W2 base g hb bb ps o n rpos rsize fin rtyp L D := by
      have hg : ¬ g = X := Ne.symm hX1
      have c := fun (j : Nat) {u : Value} (hc : World.cell? (World.drew W) ⟨g, j, none⟩ = some u) => K2.held (p := ⟨g, j, none⟩) hc hg
      have h := HI'.out
      exact ⟨c 0 h.c0, c 1 h.c1, c 6 h.c6, c 7 h.c7, c 8 h.c8, c 9 h.c9, c 10 h.c10, fun j => (K2.frozen (p := ⟨g, j, none⟩) h.lt hg).trans (h.frz j), h.blk.kept K2 (Ne.symm hX2), h.len, h.src.kept K2 (fun k e => by subst e; exact Or.inr (Or.inr (by omega))) (by omega), h.n1, h.n2, h.n3, h.b1, h.b2, h.b3⟩
    have I3 := I2.cell 7 I2.c7 (u := .int .i64 ((rpos : Int) + (cnt : Int))) (rpos' := rpos + cnt) rfl rfl rfl rfl (by decide) (by decide) (by decide)
    have KX : Kept w (W2.setCell ⟨g, 7, none⟩ (.int .i64 ((rpos : Int) + (cnt : Int)))) (fun k => k = X ∨ InS g hb bb k) := ((KW.drew).trans K2 (fun k _ e => .inl e)).setCell (p := ⟨g, 7, none⟩) (.inl (.inr (.inl rfl))) _
    have hm : q.take nX = q.take cnt := by
      rw [HC.out]
      rcases Nat.le_total nX q.length with h | h
      · rw [Nat.min_eq_right h]
      · rw [Nat.min_eq_left h, List.take_length, List.take_of_length_le h]
    have hlc : (q.take cnt).length = cnt := by rw [List.length_take]; omega
    refine .inr ⟨cnt, splice B 0 (q.take nX), hc0, hc1, by rw [List.length_append]; omega, rfl, ?_, by rw [length_splice]; rw [hm, hlc]; omega, ?_, ?_, KX⟩
    · exact B2.kept (keptG W2 g 7 _) hX1
    · rw [hm, splice_spec]
      simp only [List.take_zero, List.nil_append]
      rw [List.take_append_of_le_length (by omega), List.take_of_length_le (by omega), List.take_append_of_le_length hc2]
    · refine ⟨rpos + cnt, rsize, _, _, L, _, M, q.drop cnt, I3, hS', by omega, by omega, ?_, by rw [List.drop_append_of_le_length hc2]⟩
      rw [← hq', List.drop_take, List.drop_drop, Nat.sub_sub, Nat.add_assoc]
  · obtain rfl : rpos = rsize := by omega
    have hq0 : q = [] := by rw [← hq, Nat.sub_self, List.take_zero]
    subst hq0
    cases fin with
    | true =>
      have hM0 : M = [] := by cases hS; rfl
      subst hM0
      go_enter Try.func216, Try.ntmps216
      go_wp2_with (fail)
      go_quiet (fail)
      go_wp2
      go_ret2
      exact .inl ⟨rfl, rfl, ⟨rpos, rpos, true, rtyp, L, D, [], [], hI.fresh ((Kept.refl w _).drewN _), hS, Nat.le_refl _, hp2, hq, rfl⟩, (Kept.refl w _).drewN _⟩
    | false =>
      obtain ⟨st, seq, pay, F, M', hst, hy0, hyp, hDD, hMM, hS'⟩ : ∃ st seq pay F M', st < 256 ∧ 0 < pay.length ∧ pay.length + 8 ≤ ps ∧ D = pack typ st seq pay ++ F ∧ M = pay ++ M' ∧ Str ps typ (decide (st ≠ 0)) F M' := by
        cases hS with
        | more st seq pay F M' hs h0 hp h => exact ⟨st, seq, pay, F, M', hs, h0, hp, rfl, rfl, h⟩
      subst hMM
      have HD := Go.Lib.hid hDD
      clear hDD hS
      go_enter Try.func216, Try.ntmps216
      go_wp2_with (fail)
      go_quiet (fail)
      go_wp2_with (fail)
      generalize hW : World.drewN w _ = W
      have hF : Fresh w W := hW ▸ (Kept.refl w _).drewN _
      have hBW0 := hB.fresh hF
      have I0 := hI.fresh hF
      clear hW c7 c8 c9 hq
      refine (next_any base g hb bb ps o n rpos rpos rtyp false L D W I0 typ st seq pay F HD.out hst hy0 hyp hps hpn hn).mono ?_
      rintro e W1 ⟨rfl, L1, I1, hq', K1⟩
      have hq' : (L1.drop (o + 8)).take (pay.length + 8 - 8) = pay := by rw [Nat.add_sub_cancel]; exact hq'
      have hBW : Blk W1 X B := hBW0.kept K1 (fun e => by rcases e with e | e | e; exact hX1 e; exact hX2 e; omega)
      have KW : Kept w W1 (fun k => k = X ∨ InS g hb bb k) := (hF.mono (S := fun k => k = X ∨ InS g hb bb k) (fun _ _ h => h.elim)).trans K1 (fun k _ e => .inr e)
      generalize hM : pay.length + 8 = rs at *
      have h8r : 8 < rs := by omega
      clear hM
      obtain ⟨rp, hrp⟩ : ∃ rp : Nat, rp = 8 := ⟨_, rfl⟩
      rw [← hrp] at I1 hq'
      have hrp1 : rp ≤ 8 := by omega
      have hrp2 : 8 ≤ rp := by omega
      clear hrp
      clear hF I0 hBW0 K1
      have d6 := I1.c6
      have d7 := I1.c7
      have d8 := I1.c8
      have f7 := I1.frz 7
      have hll := I1.len
      have i1 : ((rp : Nat) : Int) ≤ ((rs : Nat) : Int) := by omega
      have i2 : ((rs : Nat) : Int) ≤ (n : Int) := by omega
      have i3 : ¬ n = rp := by omega
      have i4 : (0 : Int) ≤ ((rp : Nat) : Int) := by omega
      have hql : pay.length = rs - rp := by rw [← hq', List.length_take, List.length_drop]; omega
      have hqb : Bts W1 (.slice (some ⟨hb, o + rp, none⟩) (rs - rp) (n - rp)) pay := by
        have := I1.blk.bts (o + rp) (rs - rp) (n - rp) (by omega) (by omega) (by unfold maxLen; omega)
        rw [hq'] at this
        exact this
      obtain ⟨cnt, hcnt⟩ : ∃ cnt, cnt = min pay.length nX := ⟨_, rfl⟩
      have hc0 : 0 < cnt := by omega
      have hc1 : cnt ≤ nX := by omega
      have hc2 : cnt ≤ pay.length := by omega
      have HC := Go.Lib.hid hcnt
      have HQL := Go.Lib.hid hql
      have hc3 : cnt + rp ≤ rs := by omega
      have I' := I1.fresh (Kept.refl W1 _).drew
      have HI' := Go.Lib.hid I'
      clear hcnt hql I'
      go_wp2_with (fail)
      go_still_tail 14, (by kernel_rfl)
      go_wp2_with (refine wpList_copy rfl (.tmp 24) (.tmp 37) 24 24 rfl Try.underlying24 hsz5 X 0 nX cX (.slice (some ⟨hb, o + rp, none⟩) (rs - rp) (n - rp)) rfl rfl pay (hqb.fresh (Kept.refl W1 _).drew) B hBW.drew (by omega) cnt HC.out ?_; intro W2 K2 B2; have e7 := K2.held HI'.out.c7 (p := ⟨g, 7, none⟩) (Ne.symm hX1); have g7 := (K2.frozen (p := ⟨g, 7, none⟩) HI'.out.lt (Ne.symm hX1)).trans (HI'.out.frz 7))
      go_ret2
      have I2 : In W2 base g hb bb ps o n rp rs (decide (st ≠ 0)) typ L1 F := by
        have hg : ¬ g = X := Ne.symm hX1
        have c := fun (j : Nat) {u : Value} (hc : World.cell? (World.drew W1) ⟨g, j, none⟩ = some u) => K2.held (p := ⟨g, j, none⟩) hc hg
        have h := HI'.out
        exact ⟨c 0 h.c0, c 1 h.c1, c 6 h.c6, c 7 h.c7, c 8 h.c8, c 9 h.c9, c 10 h.c10, fun j => (K2.frozen (p := ⟨g, j, none⟩) h.lt hg).trans (h.frz j), h.blk.kept K2 (Ne.symm hX2), h.len, h.src.kept K2 (fun k e => by subst e; exact Or.inr (Or.inr (by omega))) (by omega), h.n1, h.n2, h.n3, h.b1, h.b2, h.b3⟩
      have I3 := I2.cell 7 I2.c7 (u := .int .i64 ((rp : Int) + (cnt : Int))) (rpos' := rp + cnt) rfl rfl rfl rfl (by decide) (by decide) (by decide)
      have KX : Kept w (W2.setCell ⟨g, 7, none⟩ (.int .i64 ((rp : Int) + (cnt : Int)))) (fun k => k = X ∨ InS g hb bb k) := ((KW.drew).trans K2 (fun k _ e => .inl e)).setCell (p := ⟨g, 7, none⟩) (.inl (.inr (.inl rfl))) _
      have hm : pay.take nX = pay.take cnt := by
        rw [HC.out]
        rcases Nat.le_total nX pay.length with h | h
        · rw [Nat.min_eq_right h]
        · rw [Nat.min_eq_left h, List.take_length, List.take_of_length_le h]
      have hlc : (pay.take cnt).length = cnt := by rw [List.length_take]; omega
      refine .inr ⟨cnt, splice B 0 (pay.take nX), hc0, hc1, by rw [List.length_append]; omega, rfl, ?_, by rw [length_splice]; rw [hm, hlc]; omega, ?_, ?_, KX⟩
      · exact B2.kept (keptG W2 g 7 _) hX1
      · rw [hm, splice_spec]
        simp only [List.take_zero, List.nil_append]
        rw [List.take_append_of_le_length (by omega), List.take_of_length_le (by omega), List.take_append_of_le_length hc2]
      · refine ⟨rp + cnt, rs, _, _, L1, _, M', pay.drop cnt, I3, hS', by omega, by omega, ?_, by rw [List.drop_append_of_le_length hc2]⟩
        rw [← hq', List.drop_take, List.drop_drop, Nat.sub_sub, Nat.add_assoc]
end Go.Proofs.Ytahcaoenddapoaa
