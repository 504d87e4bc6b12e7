/- (*tdsBuffer).Write, BeginPacket, FinishPacket, and what is written. -/
import Derived.Test.YtahcaoenddapoaaFlush
namespace Go.Proofs.Ytahcaoenddapoaa
open Go.RowKit

/-- The header's bytes that stay, and what is pending behind them. -/
def Hd (L : List Nat) (st : Nat) (pend : List Nat) : Prop := ∃ x0 x2 x3 x6 r, L = x0 :: st :: x2 :: x3 :: 0 :: 0 :: x6 :: 0 :: (pend ++ r)

theorem Hd.flush {L : List Nat} {st : Nat} {pend : List Nat} (h : Hd L st pend) (typ seq : Nat) : (headed L typ (8 + pend.length) seq).take (8 + pend.length) = pack typ st seq pend ∧ Hd (headed L typ (8 + pend.length) seq) st [] := by
  obtain ⟨x0, x2, x3, x6, r, rfl⟩ := h
  have e : headed (x0 :: st :: x2 :: x3 :: 0 :: 0 :: x6 :: 0 :: (pend ++ r)) typ (8 + pend.length) seq = typ :: st :: ((8 + pend.length) / 256 % 256) :: ((8 + pend.length) % 256) :: 0 :: 0 :: seq :: 0 :: (pend ++ r) := rfl
  rw [e]
  refine ⟨?_, ⟨_, _, _, _, pend ++ r, rfl⟩⟩
  rw [Nat.add_comm 8 pend.length]
  simp [pack]

theorem Hd.more {L : List Nat} {st : Nat} {pend : List Nat} (h : Hd L st pend) (cs : List Nat) (hl : 8 + pend.length + cs.length ≤ L.length) : Hd (splice L (8 + pend.length) cs) st (pend ++ cs) := by
  obtain ⟨x0, x2, x3, x6, r, rfl⟩ := h
  refine ⟨x0, x2, x3, x6, r.drop cs.length, ?_⟩
  rw [splice_spec, Nat.add_comm 8 pend.length]
  have e1 : pend.length + 8 + cs.length = (pend.length + cs.length) + 8 := by omega
  rw [e1]
  simp [List.drop_append]

/-- The buffer in the middle of a message: T has been written, k packets are on their way. -/
def Out (w : World) (base g hb bb ps N C typ k : Nat) (v : Value) (T : List Nat) : Prop :=
  (ps - 8) * k ≤ T.length ∧ T.length ≤ (ps - 8) * k + (ps - 8) ∧ ∃ L, Raw w base g hb bb ps N C (8 + (T.drop ((ps - 8) * k)).length) ((k + 1) % 256) typ v (packs (ps - 8) typ k T) L ∧ Hd L 0 (T.drop ((ps - 8) * k))

theorem Out.kept {w w' : World} {base g hb bb ps N C typ k : Nat} {v : Value} {T : List Nat} {S : Nat → Prop} (h : Out w base g hb bb ps N C typ k v T) (hk : Kept w w' S) (h1 : ∀ j, RawS g hb bb v j → ¬ S j) : Out w' base g hb bb ps N C typ k v T := by
  obtain ⟨a1, a2, L, hR, hH⟩ := h
  exact ⟨a1, a2, L, hR.kept hk (h1 _ (.inl rfl)) (h1 _ (.inr (.inl rfl))) (h1 _ (.inr (.inr (.inl rfl)))) (fun k hk => h1 k (.inr (.inr (.inr hk)))), hH⟩
theorem Out.fresh {w w' : World} {base g hb bb ps N C typ k : Nat} {v : Value} {T : List Nat} (h : Out w base g hb bb ps N C typ k v T) (hk : Fresh w w') : Out w' base g hb bb ps N C typ k v T := h.kept hk (fun _ _ h => h)

def posOf (w : World) (g : Nat) : Nat := match w.cell? ⟨g, 3, none⟩ with | some (.int _ z) => z.toNat | _ => 0
theorem posOf_of {w : World} {g n : Nat} (h : w.cell? ⟨g, 3, none⟩ = some (.int .i64 (n : Int))) : posOf w g = n := by simp [posOf, h]

/-- Where Write's loop stands: j bytes are taken. -/
def WAt (w wr : World) (base g hb bb ps N C typ : Nat) (v : Value) (T m : List Nat) (j : Nat) : Prop :=
  ∃ k v1, Out wr base g hb bb ps N C typ k v1 (T ++ m.take j) ∧ (j < m.length ∨ Less (ps - 8) k (T ++ m.take j)) ∧ Kept w wr (RawS g hb bb v) ∧ Moved w v v1

set_option maxRecDepth 100000 in
set_option maxHeartbeats 4000000 in
theorem write_any (base g hb bb ps N C typ k : Nat) (v x : Value) (T m : List Nat) (w : World) (hO : Out w base g hb bb ps N C typ k v T) (hl : Less (ps - 8) k T) (hx : Bts w x m) (hxb : ∀ j, x.ownBlock = some j → ¬ RawS g hb bb v j)
    (h9 : 9 ≤ ps) (hpN : ps ≤ N) (hNC : N < C) (hN : N ≤ 32768) (hC : C ≤ 70000) (hbase : base ≤ w.heap.size) (hT : T.length + m.length ≤ 200000) :
    Calls Try.prog 78 #[.pointer (some ⟨g, 0, none⟩), x] w fun e w' => e = .returned (.tuple #[.int .i64 (m.length : Int), .nilIface]) ∧ ∃ k' v', Out w' base g hb bb ps N C typ k' v' (T ++ m) ∧ Less (ps - 8) k' (T ++ m) ∧ Kept w w' (RawS g hb bb v) ∧ Moved w v v' := by
  obtain ⟨A, c, rfl, hlc⟩ := hx.slice
  obtain ⟨i0, hi, hz0, hz1, hz2⟩ := info_parts info5
  go_enter Try.func78, Try.ntmps78
  go_wp2_with (fail)
  go_loopw [1, 4, 5] (fun d t er wr => ∃ (j : Nat) (Aj : Option Addr) (nj cj : Nat), d = .slice Aj nj cj ∧ t = .int .i64 (j : Int) ∧ er = .nilIface ∧ j ≤ m.length ∧ Bts w d (m.drop j) ∧ (∀ b, d.ownBlock = some b → ¬ RawS g hb bb v b) ∧ WAt w wr base g hb bb ps N C typ v T m j) (fun _ t _ wr => 2 * (m.length - (intOf t).toNat) + posOf wr g / ps)
  case atStart => exact ⟨0, A, m.length, c, rfl, rfl, rfl, Nat.zero_le _, by simpa using hx, hxb, k, v, by simpa using hO, .inr (by simpa using hl), Kept.refl _ _, Moved.refl _ _⟩
  case round =>
    obtain ⟨j, Aj, nj, cj, rfl, rfl, rfl, hjm, hxj, hbj, k, v1, ⟨a1, a2, L, hR, hH⟩, hless, hK, hM⟩ := hrel
    have hnj := hxj.len
    have hcj := hxj.room
    rw [List.length_drop] at hnj
    have hTl : (T ++ m.take j).length = T.length + j := by rw [List.length_append, List.length_take]; omega
    generalize hT1 : T ++ m.take j = T1 at *
    generalize hP : packs (ps - 8) typ k T1 = P at *
    generalize hD : T1.drop ((ps - 8) * k) = D at *
    have hDl : D.length + (ps - 8) * k = T1.length := by rw [← hD, List.length_drop]; omega
    have hpl : 8 + D.length ≤ ps := by omega
    generalize hpos : 8 + D.length = pos at *
    have c1 := hR.c1
    have c2 := hR.c2
    have c3 := hR.c3
    have HPOS := Go.Lib.hid hpos
    have hnj1 : nj + j ≤ m.length := by omega
    have hnj2 : m.length ≤ nj + j := by omega
    have hsz := hK.size
    have i1 : (0 : Int) ≤ ((pos : Nat) : Int) := by omega
    have i2 : ((pos : Nat) : Int) ≤ ((ps : Nat) : Int) := by omega
    have i3 : ((ps : Nat) : Int) ≤ ((C : Nat) : Int) := by omega
    have i4 : ¬ C = pos := by omega
    have hLl := hR.len
    clear hpos hnj
    have hsz5 : (Try.prog.info? 5).map (·.size) = some 1 := by rw [hi]; simp [hz1]
    have hbj1 : ∀ b, (Value.slice Aj nj cj).ownBlock = some b → ¬ RawS g hb bb v1 b := fun b hb' hS => by
      rcases hS with hS | hS | hS | hS
      · exact hbj b hb' (.inl hS)
      · exact hbj b hb' (.inr (.inl hS))
      · exact hbj b hb' (.inr (.inr (.inl hS)))
      · rcases hM b hS with h | h
        · exact hbj b hb' (.inr (.inr (.inr h)))
        · have := hxj.block b hb'
          omega
    have hxr : Bts wr (.slice Aj nj cj) (m.drop j) := hxj.kept hK hbj
    by_cases hfin : nj ≤ ps - pos
    · have hcl : ((m.drop j).take (ps - pos)).length = nj := by rw [List.length_take, List.length_drop]; omega
      have hcn : nj = min (m.drop j).length (ps - pos) := by rw [List.length_drop]; omega
      have HCL := Go.Lib.hid hcl
      have HCN := Go.Lib.hid hcn
      clear hcl hcn
      go_wp2_with (fail)
      go_still_tail 14, (by kernel_rfl)
      go_wp2_with (refine wpList_copy rfl (.tmp 19) (.tmp 20) 24 24 rfl Try.underlying24 hsz5 hb pos (ps - pos) (C - pos) (.slice Aj nj cj) rfl rfl (m.drop j) (hxr.fresh (Kept.refl wr _).drew) L hR.blk.drew (by omega) nj HCN.out ?_; intro W2 K2 B2; have R2 := (hR.fresh (Kept.refl wr _).drew).arr K2 B2 (by rw [length_splice]; rw [HCL.out]; omega); have c3' := R2.c3; have f3' := R2.frz 3)
      go_ret2
      have R3 := R2.cell 3 R2.c3 (u := .int .i64 ((pos : Int) + (nj : Int))) (pos' := pos + nj) (seq' := (k + 1) % 256) (typ' := typ) rfl rfl rfl (by decide) (by decide) (by decide) (by decide)
      have K3 : Kept w (W2.setCell ⟨g, 3, none⟩ (.int .i64 ((pos : Int) + (nj : Int)))) (RawS g hb bb v) := (hK.drew.trans K2 (fun k _ e => .inr (.inl e))).setCell (p := ⟨g, 3, none⟩) (.inl (.inl rfl)) _
      have e0 : ((j : Int) + (nj : Int)) = (m.length : Int) := by omega
      have e1 : (m.drop j).take (ps - pos) = m.drop j := List.take_of_length_le (by rw [List.length_drop]; omega)
      have e2 : T ++ m = T1 ++ m.drop j := by rw [← hT1, List.append_assoc, List.take_append_drop]
      have e3 : (T ++ m).drop ((ps - 8) * k) = D ++ m.drop j := by rw [e2, List.drop_append_of_le_length a1, hD]
      have e4 : (D ++ m.drop j).length = D.length + nj := by rw [List.length_append, List.length_drop]; omega
      have e5 : (T ++ m).length = T1.length + nj := by rw [e2, List.length_append, List.length_drop]; omega
      have hq := HPOS.out
      refine ⟨by rw [e0]; rfl, k, v1, ⟨by omega, by omega, splice L pos ((m.drop j).take (ps - pos)), ?_, ?_⟩, ?_, K3, hM⟩
      · rw [e3, e4, e2, packs_append _ _ _ _ _ a1, hP, show 8 + (D.length + nj) = pos + nj by omega]
        exact R3
      · rw [e3, e1, ← hq]
        exact hH.more _ (by rw [List.length_drop]; omega)
      · rcases hless with h | h
        · exact .inr (by omega)
        · exact h.imp id (fun h => by omega)
    · have hcl : ((m.drop j).take (ps - pos)).length = (ps - pos) := by rw [List.length_take, List.length_drop]; omega
      have hcn : (ps - pos) = min (m.drop j).length (ps - pos) := by rw [List.length_drop]; omega
      have HCL := Go.Lib.hid hcl
      have HCN := Go.Lib.hid hcn
      clear hcl hcn
      go_wp2_with (fail)
      go_still_tail 14, (by kernel_rfl)
      go_wp2_with (refine wpList_copy rfl (.tmp 19) (.tmp 20) 24 24 rfl Try.underlying24 hsz5 hb pos (ps - pos) (C - pos) (.slice Aj nj cj) rfl rfl (m.drop j) (hxr.fresh (Kept.refl wr _).drew) L hR.blk.drew (by omega) (ps - pos) HCN.out ?_; intro W2 K2 B2; have R2 := (hR.fresh (Kept.refl wr _).drew).arr K2 B2 (by rw [length_splice]; rw [HCL.out]; omega); have c3' := R2.c3; have f3' := R2.frz 3)
      have R3 := R2.cell 3 R2.c3 (u := .int .i64 ((pos : Int) + ((ps - pos : Nat) : Int))) (pos' := pos + (ps - pos)) (seq' := (k + 1) % 256) (typ' := typ) rfl rfl rfl (by decide) (by decide) (by decide) (by decide)
      have K3 : Kept w (W2.setCell ⟨g, 3, none⟩ (.int .i64 ((pos : Int) + ((ps - pos : Nat) : Int)))) (RawS g hb bb v) := (hK.drew.trans K2 (fun k _ e => .inr (.inl e))).setCell (p := ⟨g, 3, none⟩) (.inl (.inl rfl)) _
      have hsz3 := K3.size
      have hPl : P.length ≤ 4000000 := by
        rw [← hP, packs_length _ _ _ _ a1]
        have h1 := Nat.le_mul_of_pos_left k (show 0 < ps - 8 by omega)
        have h2 : (ps - 8 + 8) * k = (ps - 8) * k + 8 * k := Nat.add_mul _ _ _
        omega
      refine (flush_any base g hb bb ps N C (pos + (ps - pos)) ((k + 1) % 256) typ v1 P _ _ R3 (by omega) (by omega) (by omega) hN hC (by omega) hPl).mono ?_
      rintro e W4 ⟨rfl, v2, R4, K4, M4⟩
      have hq := HPOS.out
      have hck : ¬ cj = ps - pos := by omega
      have HM2 : Moved w v v2 := hM.trans (fun b hb' => (M4 b hb').imp id (fun h => by have := hK.drew.size; simp at *; have := K2.size; simp at *; omega)) hsz
      have K5 : Kept w W4 (RawS g hb bb v) := K3.trans K4 (fun b hb' e => by
        rcases e with e | e | e | e
        · exact .inl e
        · exact .inr (.inl e)
        · exact .inr (.inr (.inl e))
        · exact (hM b e).elim (fun h => .inr (.inr (.inr h))) (fun h => by omega))
      have e1 : (m.drop j).take (ps - pos) ++ (m.drop j).drop (ps - pos) = m.drop j := List.take_append_drop _ _
      have e2 : T ++ m.take (j + (ps - pos)) = T1 ++ (m.drop j).take (ps - pos) := by rw [List.take_add, ← List.append_assoc, hT1]
      have e3 : (T1 ++ (m.drop j).take (ps - pos)).drop ((ps - 8) * k) = D ++ (m.drop j).take (ps - pos) := by rw [List.drop_append_of_le_length a1, hD]
      have e4 : (D ++ (m.drop j).take (ps - pos)).length = ps - 8 := by rw [List.length_append, HCL.out]; omega
      have e5 : (T1 ++ (m.drop j).take (ps - pos)).length = (ps - 8) * k + (ps - 8) := by rw [List.length_append, HCL.out]; omega
      have hHm := hH.more ((m.drop j).take (ps - pos)) (by rw [HCL.out]; omega)
      rw [hq] at hHm
      obtain ⟨f1, f2⟩ := hHm.flush typ ((k + 1) % 256)
      have e6 : 8 + (D ++ (m.drop j).take (ps - pos)).length = pos + (ps - pos) := by rw [e4]; omega
      rw [e6] at f1 f2
      rw [f1] at R4
      have HO : WAt w W4 base g hb bb ps N C typ v T m (j + (ps - pos)) := by
        refine ⟨k + 1, v2, ?_, .inl (by omega), K5, HM2⟩
        rw [e2]
        have e7 : (ps - 8) * (k + 1) = (ps - 8) * k + (ps - 8) := Nat.mul_succ _ _
        have e8 : (T1 ++ (m.drop j).take (ps - pos)).drop ((ps - 8) * (k + 1)) = [] := List.drop_eq_nil_of_le (by omega)
        refine ⟨by omega, by omega, _, ?_, by rw [e8]; exact f2⟩
        rw [e8, packs_succ, packs_append _ _ _ _ _ a1, hP, e3, List.take_of_length_le (by omega), show (k + 1 + 1) % 256 = ((k + 1) % 256 + 1) % 256 by omega]
        exact R4
      have HPS := posOf_of R4.c3
      have HPW := posOf_of c3
      have hcut := hxj.cut (ps - pos) (by omega)
      rw [if_neg hck] at hcut
      have hcb : ∀ b, (Value.slice (Option.map (fun a => a.add (ps - pos)) Aj) (nj - (ps - pos)) (cj - (ps - pos))).ownBlock = some b → ¬ RawS g hb bb v b := fun b hb' => hbj b (by
        cases Aj with
        | none => simp [Value.ownBlock] at hb'
        | some ad =>
          simp [Value.ownBlock, Addr.add] at hb'
          split at hb' <;> simpa [Value.ownBlock] using hb')
      clear R2 R3 K3 R4 K4 M4 K2 B2 e1 e2 e3 e4 e5 e6 f1 f2 hHm c3' f3'
      clear HCL HCN hD hP hT1
      go_wp2
      go_roundw
      case rel => exact ⟨j + (ps - pos), _, _, _, rfl, by go_num, rfl, by omega, by rw [← List.drop_drop]; exact hcut, hcb, HO⟩
      case measure =>
        rw [HPS, HPW]
        have d1 : 8 / ps = 0 := Nat.div_eq_of_lt (by omega)
        have d2 : pos / ps = 1 ∧ ps = pos ∨ pos < ps := by
          rcases Nat.lt_or_ge pos ps with h | h
          · exact .inr h
          · have : ps = pos := by omega
            subst this
            exact .inl ⟨Nat.div_self (by omega), rfl⟩
        rw [d1]
        have d3 : (intOf (Value.int .i64 ((j : Int) + ((ps - pos : Nat) : Int)))).toNat = j + (ps - pos) := by simp [intOf]; omega
        have d4 : (intOf (Value.int .i64 (j : Int))).toNat = j := by simp [intOf]
        rw [d3, d4]
        rcases d2 with ⟨d2, d5⟩ | d2
        · rw [d2]; omega
        · generalize pos / ps = z at *
          omega
end Go.Proofs.Ytahcaoenddapoaa
