/- readPreloginOption, readPreloginOptionData. -/
import Derived.Test.YtahcaoenddapoaaNext
import Derived.Deep.QuietTactic
import Derived.BigQuiet
import Derived.Deep.RegionHeld3
import Derived.IntWalk
namespace Go.Proofs.Ytahcaoenddapoaa
open Go.RowKit

theorem cells3 (W : World) (a b c : Value) (T : TypeId) : (W.alloc (.cells #[a, b, c] T)).cell? ⟨W.heap.size, 0, none⟩ = some a ∧ (W.alloc (.cells #[a, b, c] T)).cell? ⟨W.heap.size, 1, none⟩ = some b ∧ (W.alloc (.cells #[a, b, c] T)).cell? ⟨W.heap.size, 2, none⟩ = some c := by
  have c' := fun j => cell_of_row (W.alloc (.cells #[a, b, c] T)) W.heap.size j _ _ _ (heap_alloc_new _ _)
  exact ⟨c' 0, c' 1, c' 2⟩

set_option maxRecDepth 100000 in
set_option maxHeartbeats 1000000 in
theorem optEnd_any (b o n c off : Nat) (T : List Nat) (w : World) (hx : Bts w (.slice (some ⟨b, o, none⟩) n c) T) (ho : off < T.length) (h255 : T[off] = 255) :
    Calls Try.prog 127 #[.slice (some ⟨b, o, none⟩) n c, .int .i64 off] w fun e w' => ∃ p, e = .returned (.tuple #[.pointer (some ⟨p, 0, none⟩), .nilIface]) ∧ w'.cell? ⟨p, 0, none⟩ = some (.int .u8 255) ∧ Fresh w w' := by
  obtain ⟨A', c', e, h1, h2, _, h4⟩ := id hx
  injection e with e1 e2 e3
  obtain ⟨b', o', e', hb, hc⟩ := h4 _ e1.symm
  injection e' with e4 e5
  subst e4
  subst e5
  have hcell := hc off ho
  rw [h255] at hcell
  have i1 : (off : Int) < (n : Int) := by omega
  have i2 : ¬ n ≤ off := by omega
  have i3 : ¬ (n : Int) ≤ (off : Int) := by omega
  clear hc h4 e1 e2 e3 h1 h2 hx h255 ho
  go_enter Try.func127, Try.ntmps127
  go_wp2
  go_ret2
  refine ⟨w.heap.size, rfl, ?_, (Kept.refl _ _).alloc _⟩
  simp [go_sem]
set_option maxRecDepth 100000 in
set_option maxHeartbeats 2000000 in
theorem optOne_any (b o n c off tok h1 l1 h2 l2 : Nat) (w : World) (hn : n ≤ c) (ho : off + 5 < n) (hnn : n ≤ 50000) (h255 : tok < 255)
    (k0 : w.cell? ⟨b, o + off, none⟩ = some (.int .u8 (tok : Int))) (k1 : w.cell? ⟨b, o + (off + 1), none⟩ = some (.int .u8 (h1 : Int))) (k2 : w.cell? ⟨b, o + (off + 1) + 1, none⟩ = some (.int .u8 (l1 : Int)))
    (k3 : w.cell? ⟨b, o + (off + 3), none⟩ = some (.int .u8 (h2 : Int))) (k4 : w.cell? ⟨b, o + (off + 3) + 1, none⟩ = some (.int .u8 (l2 : Int))) (q1 : h1 < 256) (q2 : l1 < 256) (q3 : h2 < 256) (q4 : l2 < 256) :
    Calls Try.prog 127 #[.slice (some ⟨b, o, none⟩) n c, .int .i64 off] w fun e w' => ∃ p, e = .returned (.tuple #[.pointer (some ⟨p, 0, none⟩), .nilIface]) ∧ w'.cell? ⟨p, 0, none⟩ = some (.int .u8 (tok : Int)) ∧ w'.cell? ⟨p, 1, none⟩ = some (.int .u16 ((h1 * 256 + l1 : Nat) : Int)) ∧ w'.cell? ⟨p, 2, none⟩ = some (.int .u16 ((h2 * 256 + l2 : Nat) : Int)) ∧ Fresh w w' := by
  have i1 : (off : Int) + 5 < (n : Int) := by omega
  have i0 : (off : Int) < (n : Int) := by omega
  have ic : (n : Int) ≤ (c : Int) := by omega
  have inn : (n : Int) ≤ 50000 := by omega
  have j1 : (0 : Int) ≤ (off : Int) + 1 := by omega
  have j2 : (off : Int) + 1 ≤ (n : Int) := by omega
  have j3 : (0 : Int) ≤ (off : Int) + 3 := by omega
  have j4 : (off : Int) + 3 ≤ (n : Int) := by omega
  have s1 : IntKind.i64.wrap ((off : Int) + 1) = (off : Int) + 1 := IntWalk.i64_in _ (by omega)
  have s3 : IntKind.i64.wrap ((off : Int) + 3) = (off : Int) + 3 := IntWalk.i64_in _ (by omega)
  have t1 : ((off : Int) + 1).toNat = off + 1 := by omega
  have t3 : ((off : Int) + 3).toNat = off + 3 := by omega
  have c1 : ¬ c = off + 1 := by omega
  have c3 : ¬ c = off + 3 := by omega
  have i255 : ((tok : Int) == 255) = false := by simp; omega
  have HE : Go.RowKit.Hid (((h1 * 256 + l1 : Nat) : Int) = (h1 : Int) * 256 + (l1 : Int) ∧ ((h2 * 256 + l2 : Nat) : Int) = (h2 : Int) * 256 + (l2 : Int)) := Go.Lib.hid ⟨by omega, by omega⟩
  have HQ := Go.Lib.hid (And.intro q1 (And.intro q2 (And.intro q3 q4)))
  have HB1 := Go.Lib.hid (show 2 ≤ n - (off + 1) ∧ 2 ≤ n - (off + 3) by omega)
  clear q1 q2 q3 q4 hnn h255 hn ho
  go_enter Try.func127, Try.ntmps127
  go_wp2_with (fail)
  go_region_held3 (fun w' => w'.cell? ⟨b, o + (off + 1), none⟩ = some (.int .u8 (h1 : Int)) ∧ w'.cell? ⟨b, o + (off + 1) + 1, none⟩ = some (.int .u8 (l1 : Int)) ∧ w'.cell? ⟨b, o + (off + 3), none⟩ = some (.int .u8 (h2 : Int)) ∧ w'.cell? ⟨b, o + (off + 3) + 1, none⟩ = some (.int .u8 (l2 : Int))) (go_keep)
    (first
      | (go_at_call 144; (with_reducible refine (beU16_any b (o + (off + 1)) _ _ h1 l1 HB1.out.1 HQ.out.1 HQ.out.2.1 _ ?_ ?_).mono ?_); (first | assumption | (simp [*])); (first | assumption | (simp [*])); rintro e w' ⟨rfl, q, rfl⟩)
      | (go_at_call 144; (with_reducible refine (beU16_any b (o + (off + 3)) _ _ h2 l2 HB1.out.2 HQ.out.2.2.1 HQ.out.2.2.2 _ ?_ ?_).mono ?_); (first | assumption | (simp [*])); (first | assumption | (simp [*])); rintro e w' ⟨rfl, q, rfl⟩))
  all_goals
    go_wp2
    go_ret2
    refine ⟨w.heap.size, rfl, (cells3 (w.drewN _) _ _ _ _).1, ?_, ?_, ((Kept.refl w _).drewN _).alloc _⟩
    · rw [HE.out.1]
      exact (cells3 (w.drewN _) _ _ _ _).2.1
    · rw [HE.out.2]
      exact (cells3 (w.drewN _) _ _ _ _).2.2
set_option maxRecDepth 100000 in
set_option maxHeartbeats 2000000 in
theorem optData_any (b o n c p tok off len : Nat) (w : World) (hn : n ≤ c) (h1 : off + len ≤ n) (h2 : off < n) (hnn : n ≤ 50000) (h255 : tok < 255)
    (k0 : w.cell? ⟨p, 0, none⟩ = some (.int .u8 (tok : Int))) (k1 : w.cell? ⟨p, 1, none⟩ = some (.int .u16 (off : Int))) (k2 : w.cell? ⟨p, 2, none⟩ = some (.int .u16 (len : Int))) :
    Calls Try.prog 128 #[.pointer (some ⟨p, 0, none⟩), .slice (some ⟨b, o, none⟩) n c] w fun e w' => e = .returned (.tuple #[.slice (some ⟨b, o + off, none⟩) len (c - off), .nilIface]) ∧ w' = w := by
  have i1 : (off : Int) + (len : Int) ≤ (n : Int) := by omega
  have i2 : (off : Int) < (n : Int) := by omega
  have ic : (n : Int) ≤ (c : Int) := by omega
  have inn : (n : Int) ≤ 50000 := by omega
  have i3 : ¬ n ≤ off := by omega
  have i4 : ¬ (n : Int) ≤ (off : Int) := by omega
  have i5 : ¬ (n : Int) < (off : Int) + (len : Int) := by omega
  have i6 : ¬ n < off + len := by omega
  have cc : ¬ c = off := by omega
  have i255 : ((tok : Int) == 255) = false := by simp; omega
  clear hn h1 h2 hnn h255
  go_enter Try.func128, Try.ntmps128
  go_wp2
  go_ret2
  exact ⟨rfl, rfl⟩
end Go.Proofs.Ytahcaoenddapoaa
