/- appendLE, RuneCountInString. -/
import Derived.Test.YtahcaoenddapoaaPkt
import Derived.Test.YtahcaoenddapoaaUcs
namespace Go.Proofs.Ytahcaoenddapoaa
open Go.RowKit

theorem byte_new (w : World) (z : Int) (b : Nat) (e : z = (b : Int)) (T : TypeId) : Bts (w.alloc (.cells #[.int .u8 z] T)) (.slice (some ⟨w.heap.size, 0, none⟩) 1 1) [b] := by
  subst e
  refine ⟨_, 1, rfl, Nat.le_refl _, by decide, fun h => (by cases h), fun ad hA => ?_⟩
  cases hA
  refine ⟨_, 0, rfl, by simp, fun j hj => ?_⟩
  obtain rfl : j = 0 := by simp at hj; omega
  rw [cell_of_row _ _ _ _ _ (0, 0) (heap_alloc_new _ _)]
  rfl

set_option maxRecDepth 100000 in
set_option maxHeartbeats 1000000 in
theorem appendLE_any (n k : Nat) (hk : k ≤ 8) (base : Nat) (v : Value) (l : List Nat) (hl : l.length ≤ 140737488350000) (w : World) (hr : Row base w v l) (hb : base ≤ w.heap.size) :
    Calls Try.prog 145 #[v, .int .u64 n, .int .i64 k] w fun e w' => ∃ v', e = .returned v' ∧ Row base w' v' (l ++ leB n k) ∧ Kept w w' (fun j => v.ownBlock = some j) ∧ Moved w v v' := by
  obtain ⟨i0, hi, hz0, hz1, hz2⟩ := info_parts info5
  obtain ⟨A, c, rfl⟩ := hr.slice
  have hbk := hr.block
  go_enter Try.func145, Try.ntmps145
  go_wp2_with (fail)
  go_loopw [0, 7] (fun d i wr => ∃ (j : Nat) (Aj : Option Addr) (nj cj : Nat), j ≤ k ∧ i = .int .i64 (j : Int) ∧ d = .slice Aj nj cj ∧ Row base wr d (l ++ leB n j) ∧ Kept w wr (fun b => (Value.slice A l.length c).ownBlock = some b) ∧ Moved w (.slice A l.length c) d) (fun _ i _ => k - (intOf i).toNat)
  case atStart => exact ⟨0, A, l.length, c, Nat.zero_le _, rfl, rfl, by simpa [leB] using hr, Kept.refl _ _, Moved.refl _ _⟩
  case round =>
    obtain ⟨j, Aj, nj, cj, hj, rfl, rfl, hrj, hK, hM⟩ := hrel
    have hnj := hrj.len
    have hll : (l ++ leB n j).length = l.length + j := by rw [List.length_append, leB_length]
    by_cases hjk : j < k
    · have e8 : IntKind.i64.wrap (8 * (j : Int)) = 8 * (j : Int) := IntWalk.i64_in _ (by omega)
      have e9 : (0 : Int) ≤ 8 * (j : Int) := by omega
      have EB := Go.Lib.hid (byte_eq n j)
      have hsz := hK.size
      have hbl : base ≤ (wr.alloc (.cells #[.int .u8 (IntKind.u8.wrap ((n : Int) / 2 ^ (8 * (j : Int)).toNat))] 5)).heap.size := by simp; omega
      have hlen : (l ++ leB n j).length + [n / 256 ^ j % 256].length ≤ 140737488355328 := by rw [hll]; simp; omega
      have HLL := Go.Lib.hid hll
      have HNJ := Go.Lib.hid hnj
      have HRJ := Go.Lib.hid hrj
      clear hll hnj hrj
      go_wp2_with (at_builtin; refine wpList_append_bts _ rfl (.tmp 13) (.tmp 19) 24 24 rfl base i0 Try.underlying24 Try.underlying24 hi hz0 hz1 hz2 (.slice Aj nj cj) (.slice (some ⟨wr.heap.size, 0, none⟩) 1 1) rfl rfl (l ++ leB n j) [n / 256 ^ j % 256] (HRJ.out.fresh ((Kept.refl wr _).alloc _)) (byte_new wr _ _ EB.out 5) hlen hbl ?_; intro A2 c2 w2 hr2 hg2 hm2)
      have hF : Fresh wr _ := (Kept.refl wr (fun _ => False)).alloc (.cells #[.int .u8 ((n : Int) / 2 ^ (8 * j) % 256)] 5)
      have hK2 : Kept w w2 (fun b => (Value.slice A l.length c).ownBlock = some b) := (hK.fresh hF).trans (Kept.of_grown hg2) (fun b hb' e => by
        rcases hM b e with h | h
        · exact h
        · omega)
      have hM2 : Moved w (.slice A l.length c) (.slice A2 ((l ++ leB n j).length + [n / 256 ^ j % 256].length) c2) := fun b hb' => by
        rcases hm2 b hb' with h | h
        · exact hM b h
        · right
          simp at h
          omega
      have hr3 : Row base w2 (.slice A2 ((l ++ leB n j).length + [n / 256 ^ j % 256].length) c2) (l ++ leB n (j + 1)) := by
        rw [leB_succ, ← List.append_assoc]
        exact hr2
      simp only [List.length_append, List.length_cons, List.length_nil, Nat.zero_add] at hr3 hM2
      go_roundw
      case rel => exact ⟨j + 1, A2, _, c2, by omega, by go_num, rfl, hr3, hK2, hM2⟩
      case measure => simp [intOf]; omega
    · obtain rfl : j = k := by omega
      go_wp2
      go_ret
      exact ⟨_, rfl, hrj, hK, hM⟩

theorem runesOf_len (s : ByteArray) : (runesOf s).length ≤ s.size := runes_length s s.size 0

/-- Where the count stands. -/
def CntAt (s : ByteArray) (pos k : Nat) : Prop := ∃ b, s.size ≤ pos + b ∧ k + (runes s b pos).length = (runesOf s).length

set_option maxRecDepth 100000 in
theorem count_any (s : ByteArray) (hs : s.size ≤ 140737488355328) (w : World) :
    Calls Try.prog 106 #[.string s] w fun e w' => e = .returned (.int .i64 ((runesOf s).length : Int)) ∧ ∃ pos, w' = w.iter s pos := by
  go_enter Try.func106, Try.ntmps106
  go_wp2
  go_loopw [2] (fun n w' => ∃ (pos k : Nat), CntAt s pos k ∧ w' = w.iter s pos ∧ n = .int .i64 k) (fun _ w' => s.size - w'.iterPos w.heap.size)
  case atStart => exact ⟨0, 0, ⟨s.size, by omega, by unfold runesOf; omega⟩, rfl, rfl⟩
  case round =>
    obtain ⟨pos, k, ⟨b, hb, hk⟩, rfl, rfl⟩ := hrel
    have hkl := runesOf_len s
    by_cases hp : pos < s.size
    · have hnx : ∀ ty, (Instr.next (.pointer (some ⟨w.heap.size, 0, none⟩)) true ty).run Try.prog (w.iter s pos) = _ := fun ty => run_next_any w s pos ty hp
      have hwd := width_pos s pos hp
      have hN : CntAt s (pos + (Utf8.decode s pos).2) (k + 1) := by
        cases b with
        | zero => omega
        | succ b =>
          refine ⟨b, by omega, ?_⟩
          rw [← hk]
          simp only [runes, if_pos hp, List.length_cons]
          omega
      have HN := Go.Lib.hid hN
      have hk2 : k ≤ s.size := by omega
      clear hN hk
      go_wp2
      go_roundw
      case rel => exact ⟨_, k + 1, HN.out, rfl, by go_num⟩
      case measure => simp; omega
    · have hnx : ∀ ty, (Instr.next (.pointer (some ⟨w.heap.size, 0, none⟩)) true ty).run Try.prog (w.iter s pos) = _ := fun ty => run_next_end w s pos ty hp
      have hD : k = (runesOf s).length := by rw [← hk, runes_end s b pos hp]; simp
      have HD := Go.Lib.hid hD
      clear hD hk
      go_wp2
      go_ret
      exact ⟨by rw [← HD.out]; rfl, _, rfl⟩
end Go.Proofs.Ytahcaoenddapoaa
