/- spec.Packets: a message's packets. -/
import Derived.Test.YtahcaoenddapoaaPkt
import Derived.Test.YtahcaoenddapoaaWbytes
import Derived.Test.YtahcaoenddapoaaUcs
namespace Go.Proofs.Ytahcaoenddapoaa
open Go.RowKit

theorem leB_one (n : Nat) (h : n < 256) : leB n 1 = [n] := by simp [leB]; omega

theorem six_new (w : World) (hi lo sq : Int) (h l s : Nat) (e1 : hi = (h : Int)) (e2 : lo = (l : Int)) (e3 : sq = (s : Int)) (T : TypeId) :
    Bts (w.alloc (.cells #[.int .u8 hi, .int .u8 lo, .int .u8 0, .int .u8 0, .int .u8 sq, .int .u8 0] T)) (.slice (some ⟨w.heap.size, 0, none⟩) 6 6) [h, l, 0, 0, s, 0] := by
  subst e1 e2 e3
  refine ⟨_, 6, rfl, Nat.le_refl _, by decide, fun h => (by cases h), fun ad hA => ?_⟩
  cases hA
  refine ⟨_, 0, rfl, by simp, fun j hj => ?_⟩
  rw [cell_of_row _ _ _ _ _ (0, 0) (heap_alloc_new _ _)]
  match j, hj with
  | 0, _ => rfl
  | 1, _ => rfl
  | 2, _ => rfl
  | 3, _ => rfl
  | 4, _ => rfl
  | 5, _ => rfl
  | j + 6, hj => simp at hj; omega

set_option maxRecDepth 100000 in
set_option maxHeartbeats 4000000 in
theorem specPackets_any (kind size : Nat) (hk : kind < 256) (hs9 : 9 ≤ size) (hsz : size ≤ 32767) (T : List Nat) (hT : T.length ≤ 100000) (A : Option Addr) (n c : Nat) (w : World) (hb : Bts w (.slice A n c) T) :
    Calls Try.prog 16 #[.int .i64 kind, .int .i64 size, .slice A n c] w fun e w' => ∃ v l, e = .returned v ∧ AllPacked (size - 8) kind T l ∧ Row w.heap.size w' v l ∧ Fresh w w' := by
  obtain ⟨i0, hi, hz0, hz1, hz2⟩ := info_parts info5
  obtain ⟨q, hq⟩ : ∃ q, size = q + 8 := ⟨size - 8, by omega⟩
  have hq' : size - 8 = q := by omega
  have hqi : ((size : Nat) : Int) - 8 = (q : Int) := by omega
  rw [hq']
  have hq1 : size ≤ q + 8 := by omega
  have hq2 : q + 8 ≤ size := by omega
  clear hq' hq
  go_enter Try.func16, Try.ntmps16
  go_wp2_with (fail)
  go_loopw [2, 8] (fun d i wr => ∃ (k : Nat) (v : Value) (Ak : Option Addr) (nk ck : Nat), Less q k T ∧ i = .int .i64 ((k + 1 : Nat) : Int) ∧ d = .slice Ak nk ck ∧ Bts w d (T.drop (q * k)) ∧ Wr wr w.heap.size (w.heap.size + 1) v (packs q kind k T) ∧ Fresh w wr) (fun _ i _ => T.length + 1 - (intOf i).toNat)
  case atStart =>
    have hF : Fresh w ((w.alloc (.cells #[] 5)).alloc (.cells #[.slice (some ⟨w.heap.size, 0, none⟩) 0 0] 68)) := ((Kept.refl w _).alloc _).alloc _
    exact ⟨0, .slice (some ⟨w.heap.size, 0, none⟩) 0 0, A, n, c, .inl rfl, rfl, rfl, by simpa using hb, by simpa [packs_zero] using Wr.new w 68, hF⟩
  case round =>
    obtain ⟨k, v, Ak, nk, ck, hk0, rfl, rfl, hbk, hW, hF⟩ := hrel
    have hnk := hbk.len
    have hck := hbk.room
    have hqk : q * k ≤ T.length := by rcases hk0 with rfl | h <;> omega
    rw [List.length_drop] at hnk
    have hpl := packs_length q kind T k hqk
    have hkT : k ≤ q * k := Nat.le_mul_of_pos_left k (by omega)
    have h8k : (q + 8) * k = q * k + 8 * k := Nat.add_mul _ _ _
    generalize hP : packs q kind k T = P at *
    have hnq : nk + q * k = T.length := by omega
    have HNK := Go.Lib.hid hnk
    clear hnk
    by_cases hlast : nk ≤ q
    · have hhead := hbk.head nk (by omega)
      have hrest := hbk.cut nk (by omega)
      go_wp2_with (fail)
      refine (put_at kind 1 rfl rfl _ v P w.heap.size (by decide) (by omega) _ hW hF.size).mono ?_
      rintro e w1 ⟨rfl, v1, hW1, hK1, hM1⟩
      have hF1 := hF.writer hW (by omega) hK1
      rw [leB_one kind hk] at hW1
      go_wp2_with (fail)
      refine (put_at 1 1 rfl rfl _ v1 _ w.heap.size (by decide) (by rw [List.length_append]; simp; omega) _ hW1 hF1.size).mono ?_
      rintro e w2 ⟨rfl, v2, hW2, hK2, hM2⟩
      have hF2 := hF1.writer hW1 (by omega) hK2
      rw [leB_one 1 (by decide), List.append_assoc, List.singleton_append] at hW2
      obtain ⟨A2, c2, rfl⟩ := hW2.row.slice
      have hc2 := hW2.cell
      have hf2 := hW2.frz
      have hlp : P.length ≤ 2000000 := by omega
      have hl2 : (P ++ [kind, 1]).length ≤ 2000002 := by simp; omega
      generalize hP2 : P ++ [kind, 1] = P2 at *
      have HP2 := Go.Lib.hid hP2
      clear hP2
      have hF2s := hF2.size
      go_wp2_with (at_builtin; refine wpList_append_bts _ rfl (.tmp 34) (.tmp 44) 68 68 rfl w.heap.size i0 Try.underlying68 Try.underlying68 hi hz0 hz1 hz2 (.slice A2 P2.length c2) (.slice (some ⟨w2.heap.size, 0, none⟩) 6 6) rfl rfl P2 [(nk + 8) / 256 % 256, (nk + 8) % 256, 0, 0, (k + 1) % 256, 0] (hW2.row.fresh ((Kept.refl w2 _).alloc _)) (six_new w2 _ _ _ _ _ _ (by omega) (by omega) (by omega) 5) (by simp; omega) (by simp; omega) ?_; intro A3 c3 w3 hr3 hg3 hm3; obtain ⟨hcp, hfp⟩ := hW2.after ((Kept.refl w2 _).alloc _) hg3)
      obtain ⟨hW3, hK3, hM3⟩ := hW2.step ((Kept.refl w2 _).alloc _) hr3 hg3 hm3
      have hF3 := hF2.writer hW2 (by omega) hK3
      go_wp2_with (fail)
      refine (bytes_any (w.heap.size + 1) _ (.slice Ak nk ck) _ ((T.drop (q * k)).take nk) w.heap.size ?_ _ hW3 (hhead.fresh hF3) hF3.size).mono ?_
      · rw [List.length_append, List.length_take, List.length_drop]
        simp
        omega
      rintro e w4 ⟨rfl, v4, hW4, hK4, hM4⟩
      have hF4 := hF3.writer hW3 (by omega) hK4
      have hc4 := hW4.cell
      go_wp2
      all_goals go_ret
      all_goals
        refine ⟨v4, rfl, _, ⟨k, hk0, by omega, rfl⟩, ?_, hF4⟩
        have hr4 := hW4.row
        rw [← HP2.out] at hr4
        rw [packed, hP]
        have ht : (T.drop (q * k)).take nk = T.drop (q * k) := List.take_of_length_le (by rw [List.length_drop]; omega)
        have hl : (T.drop (q * k)).length = nk := by rw [List.length_drop]; omega
        rw [ht] at hr4
        simpa [pack, hl] using hr4
    · have hhead := hbk.head q (by omega)
      have hrest := hbk.cut q (by omega)
      go_wp2_with (fail)
      refine (put_at kind 1 rfl rfl _ v P w.heap.size (by decide) (by omega) _ hW hF.size).mono ?_
      rintro e w1 ⟨rfl, v1, hW1, hK1, hM1⟩
      have hF1 := hF.writer hW (by omega) hK1
      rw [leB_one kind hk] at hW1
      go_wp2_with (fail)
      refine (put_at 0 1 rfl rfl _ v1 _ w.heap.size (by decide) (by rw [List.length_append]; simp; omega) _ hW1 hF1.size).mono ?_
      rintro e w2 ⟨rfl, v2, hW2, hK2, hM2⟩
      have hF2 := hF1.writer hW1 (by omega) hK2
      rw [leB_one 0 (by decide), List.append_assoc, List.singleton_append] at hW2
      obtain ⟨A2, c2, rfl⟩ := hW2.row.slice
      have hc2 := hW2.cell
      have hf2 := hW2.frz
      have hlp : P.length ≤ 2000000 := by omega
      have hl2 : (P ++ [kind, 0]).length ≤ 2000002 := by simp; omega
      generalize hP2 : P ++ [kind, 0] = P2 at *
      have HP2 := Go.Lib.hid hP2
      clear hP2
      have hF2s := hF2.size
      go_wp2_with (at_builtin; refine wpList_append_bts _ rfl (.tmp 34) (.tmp 44) 68 68 rfl w.heap.size i0 Try.underlying68 Try.underlying68 hi hz0 hz1 hz2 (.slice A2 P2.length c2) (.slice (some ⟨w2.heap.size, 0, none⟩) 6 6) rfl rfl P2 [(q + 8) / 256 % 256, (q + 8) % 256, 0, 0, (k + 1) % 256, 0] (hW2.row.fresh ((Kept.refl w2 _).alloc _)) (six_new w2 _ _ _ _ _ _ (by omega) (by omega) (by omega) 5) (by simp; omega) (by simp; omega) ?_; intro A3 c3 w3 hr3 hg3 hm3; obtain ⟨hcp, hfp⟩ := hW2.after ((Kept.refl w2 _).alloc _) hg3)
      obtain ⟨hW3, hK3, hM3⟩ := hW2.step ((Kept.refl w2 _).alloc _) hr3 hg3 hm3
      have hF3 := hF2.writer hW2 (by omega) hK3
      go_wp2_with (fail)
      refine (bytes_any (w.heap.size + 1) _ (.slice Ak q ck) _ ((T.drop (q * k)).take q) w.heap.size ?_ _ hW3 (hhead.fresh hF3) hF3.size).mono ?_
      · rw [List.length_append, List.length_take, List.length_drop]
        simp
        omega
      rintro e w4 ⟨rfl, v4, hW4, hK4, hM4⟩
      have hF4 := hF3.writer hW3 (by omega) hK4
      have hc4 := hW4.cell
      clear hhead
      go_wp2
      go_roundw
      case rel =>
        refine ⟨k + 1, v4, _, _, _, .inr (by rw [Nat.mul_succ]; omega), by go_num, rfl, ?_, ?_, hF4⟩
        · have h5 := hrest
          rw [if_neg (show ck ≠ q by omega)] at h5
          rw [List.drop_drop, show q * k + q = q * (k + 1) from (Nat.mul_succ q k).symm] at h5
          exact h5
        · rw [packs_succ, hP]
          have hr4 := hW4
          rw [← HP2.out] at hr4
          have hl : ((T.drop (q * k)).take q).length = q := by rw [List.length_take, List.length_drop]; omega
          simpa [pack, hl] using hr4
      case measure => simp [intOf]; omega
end Go.Proofs.Ytahcaoenddapoaa
