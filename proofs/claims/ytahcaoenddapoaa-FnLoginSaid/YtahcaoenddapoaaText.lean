/- The walk of spec.Text: it answers the plain word 'textB'. -/
import Derived.Test.YtahcaoenddapoaaRows
import Derived.Test.YtahcaoenddapoaaUtf
import Derived.WalkKit
import Derived.WalkSpells
import Derived.BigGuardPart
import Derived.Lib.Hide
namespace Go.Proofs.Ytahcaoenddapoaa
open Go.RowKit

theorem bad_no (s : ByteArray) (pos : Nat) (h : ¬ ((Utf8.decode s pos).1 : Int) = 65533) : bad s pos = false := by
  unfold bad
  have : ((Utf8.decode s pos).1 == 65533) = false := by simp; omega
  rw [this]; rfl

theorem bad_short (s : ByteArray) (pos : Nat) (h : ((Utf8.decode s pos).1 : Int) = 65533) (h2 : (s.size : Int) - pos < 3) : bad s pos = true := by
  unfold bad
  have e1 : ((Utf8.decode s pos).1 == 65533) = true := by simp; omega
  have e2 : decide (s.size < pos + 3) = true := by simp; omega
  rw [e1, e2]; rfl

theorem bad_long (s : ByteArray) (pos : Nat) (h : ((Utf8.decode s pos).1 : Int) = 65533) (h2 : (!(s.extract pos (pos + 3)).toList == [239, 191, 189]) = true) : bad s pos = true := by
  unfold bad
  have e1 : ((Utf8.decode s pos).1 == 65533) = true := by simp; omega
  rw [e1, h2]; simp

theorem bad_fine (s : ByteArray) (pos : Nat) (h2 : ¬ (s.size : Int) - pos < 3) (h3 : (!(s.extract pos (pos + 3)).toList == [239, 191, 189]) = false) : bad s pos = false := by
  unfold bad
  have e2 : decide (s.size < pos + 3) = false := by simp; omega
  rw [h3, e2]; simp

/-- What holds at the head of a round: the place, the rounds that are left, and that the whole answer is the rest's. -/
def TextAt (s : ByteArray) (pos k : Nat) : Prop := ∃ b, s.size ≤ pos + b ∧ okFrom s b pos = okFrom s s.size 0 ∧ k + (runes s b pos).length = (runesOf s).length

theorem TextAt.start (s : ByteArray) : TextAt s 0 0 := ⟨s.size, by omega, rfl, by unfold runesOf; omega⟩
theorem TextAt.le {s : ByteArray} {pos k : Nat} (h : TextAt s pos k) : k ≤ s.size := by
  obtain ⟨b, _, _, h3⟩ := h
  have := runes_length s s.size 0
  unfold runesOf at h3
  omega
theorem TextAt.stop {s : ByteArray} {pos k : Nat} (h : TextAt s pos k) (hp : pos < s.size) (hb : bad s pos = true) : textB s = false := by
  obtain ⟨b, h1, h2, _⟩ := h
  cases b with
  | zero => omega
  | succ b =>
    unfold textB
    rw [← h2]
    simp [okFrom, hp, hb]
theorem TextAt.next {s : ByteArray} {pos k : Nat} (h : TextAt s pos k) (hp : pos < s.size) (hb : bad s pos = false) : TextAt s (pos + (Utf8.decode s pos).2) (k + 1) := by
  obtain ⟨b, h1, h2, h3⟩ := h
  have hw := width_pos s pos hp
  cases b with
  | zero => omega
  | succ b =>
    refine ⟨b, by omega, ?_, ?_⟩
    · rw [← h2]
      simp [okFrom, hp, hb]
    · rw [← h3]
      simp only [runes, if_pos hp, List.length_cons]
      omega
theorem TextAt.done {s : ByteArray} {pos k : Nat} (h : TextAt s pos k) (hp : ¬ pos < s.size) : textB s = decide ((k : Int) ≤ 60) := by
  obtain ⟨b, h1, h2, h3⟩ := h
  unfold textB
  rw [← h2, ← h3, okFrom_end s b pos hp, runes_end s b pos hp]
  simp
  omega

set_option maxRecDepth 100000 in
theorem text_any (s : ByteArray) (hs : s.size ≤ 140737488355328) (w : World) :
    Calls Try.prog 9 #[.string s] w fun e w' => e = .returned (.bool (textB s)) ∧ ∃ pos, w' = w.iter s pos := by
  go_enter Try.func9, Try.ntmps9
  go_wp2
  go_loopw [3] (fun n w' => ∃ (pos k : Nat), TextAt s pos k ∧ w' = w.iter s pos ∧ n = .int .i64 k) (fun _ w' => s.size - w'.iterPos w.heap.size)
  case atStart => exact ⟨0, 0, TextAt.start s, rfl, rfl⟩
  case round =>
    obtain ⟨pos, k, hk, rfl, rfl⟩ := hrel
    have hkl := hk.le
    by_cases hp : pos < s.size
    · have hnx : ∀ ty, (Instr.next (.pointer (some ⟨w.heap.size, 0, none⟩)) true ty).run Try.prog (w.iter s pos) = _ := fun ty => run_next_any w s pos ty hp
      have hwd := width_pos s pos hp
      by_cases hb : bad s pos = true
      · have ht := hk.stop hp hb
        have HT := Go.Lib.hid ht
        have HB := Go.Lib.hid hb
        clear ht hb
        go_wp2
        · go_ret
          exact ⟨by rw [HT.out]; rfl, _, rfl⟩
        · go_ret
          exact ⟨by rw [HT.out]; rfl, _, rfl⟩
        · have := bad_fine s pos (by assumption) (by assumption)
          rw [HB.out] at this
          cases this
        · have := bad_no s pos (by assumption)
          rw [HB.out] at this
          cases this
      · have hb' : bad s pos = false := by simpa using hb
        have HB := Go.Lib.hid hb'
        clear hb hb'
        go_wp2
        · have := bad_short s pos (by assumption) (by assumption)
          rw [HB.out] at this
          cases this
        · have := bad_long s pos (by assumption) (by assumption)
          rw [HB.out] at this
          cases this
        · go_roundw
          case rel => exact ⟨_, k + 1, hk.next hp HB.out, rfl, by go_num⟩
          case measure => simp; omega
        · go_roundw
          case rel => exact ⟨_, k + 1, hk.next hp HB.out, rfl, by go_num⟩
          case measure => simp; omega
    · have hnx : ∀ ty, (Instr.next (.pointer (some ⟨w.heap.size, 0, none⟩)) true ty).run Try.prog (w.iter s pos) = _ := fun ty => run_next_end w s pos ty hp
      have HD := Go.Lib.hid (hk.done hp)
      go_wp2
      go_ret
      exact ⟨by rw [HD.out]; rfl, _, rfl⟩
end Go.Proofs.Ytahcaoenddapoaa
