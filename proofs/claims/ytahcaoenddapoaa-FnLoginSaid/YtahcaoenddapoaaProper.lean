/- spec.ProperLogin. -/
import Derived.Test.YtahcaoenddapoaaFits
import Derived.Test.YtahcaoenddapoaaWithin
import Derived.Test.YtahcaoenddapoaaText
namespace Go.Proofs.Ytahcaoenddapoaa
open Go.RowKit

def Lg.texts (x : Lg) : List ByteArray := [x.s0, x.s1, x.s2, x.s3, x.s4, x.s5, x.s6, x.s7]
/-- A text that a login may have: fine, each rune one unit. -/
def fineText (s : ByteArray) : Prop := textB s = true ∧ ∀ r ∈ runesOf s, r ≤ 65535
def Lg.proper (x : Lg) : Prop := (∀ s ∈ x.texts, fineText s) ∧ (∀ f ∈ [x.f1, x.f2, x.f3, x.f4], 0 ≤ f ∧ f ≤ 255) ∧ bits .and .i64 x.f4 16 = 0 ∧ -2147483648 ≤ x.off ∧ x.off ≤ 2147483647

def AllOne (s : ByteArray) (pos : Nat) : Prop := ∃ b, s.size ≤ pos + b ∧ ((∀ r ∈ runes s b pos, r ≤ 65535) → ∀ r ∈ runesOf s, r ≤ 65535)
theorem AllOne.start (s : ByteArray) : AllOne s 0 := ⟨s.size, by omega, fun h => h⟩
theorem AllOne.next {s : ByteArray} {pos : Nat} (h : AllOne s pos) (hp : pos < s.size) (hr : ((Utf8.decode s pos).1 : Int) ≤ 65535) : AllOne s (pos + (Utf8.decode s pos).2) := by
  obtain ⟨b, h1, h2⟩ := h
  have hw := width_pos s pos hp
  cases b with
  | zero => omega
  | succ b =>
    refine ⟨b, by omega, fun h3 => h2 fun r hr' => ?_⟩
    simp only [runes, if_pos hp, List.mem_cons] at hr'
    rcases hr' with rfl | hr'
    · omega
    · exact h3 r hr'
theorem AllOne.done {s : ByteArray} {pos : Nat} (h : AllOne s pos) (hp : ¬ pos < s.size) : ∀ r ∈ runesOf s, r ≤ 65535 := by
  obtain ⟨b, _, h2⟩ := h
  exact h2 (by rw [runes_end s b pos hp]; intro r hr; cases hr)

theorem four_new (w : World) (f1 f2 f3 f4 : Int) (T : TypeId) : ∀ (j : Nat) (h : j < 4),
    (w.alloc (.cells #[.int .i64 f1, .int .i64 f2, .int .i64 f3, .int .i64 f4] T)).cell? ⟨w.heap.size, j, none⟩ = some (.int .i64 ([f1, f2, f3, f4][j]'h)) := by
  intro j hj
  rw [cell_of_row _ _ _ _ _ (0, 0) (heap_alloc_new _ _)]
  match j, hj with
  | 0, _ => rfl
  | 1, _ => rfl
  | 2, _ => rfl
  | 3, _ => rfl
  | j + 4, hj => omega

/-- What ProperLogin's answer tells. -/
def Tells (x : Lg) (e : Ending) : Prop := ∃ b, e = .returned (.bool b) ∧ (b = true → x.proper)

theorem eight_new (w : World) (s0 s1 s2 s3 s4 s5 s6 s7 : ByteArray) (T : TypeId) : ∀ (j : Nat) (h : j < 8),
    (w.alloc (.cells #[.string s0, .string s1, .string s2, .string s3, .string s4, .string s5, .string s6, .string s7] T)).cell? ⟨w.heap.size, j, none⟩ = some (.string ([s0, s1, s2, s3, s4, s5, s6, s7][j]'h)) := by
  intro j hj
  rw [cell_of_row _ _ _ _ _ (0, 0) (heap_alloc_new _ _)]
  match j, hj with
  | 0, _ => rfl
  | 1, _ => rfl
  | 2, _ => rfl
  | 3, _ => rfl
  | 4, _ => rfl
  | 5, _ => rfl
  | 6, _ => rfl
  | 7, _ => rfl
  | j + 8, hj => omega

set_option maxRecDepth 100000 in
set_option maxHeartbeats 2000000 in
theorem proper_any (x : Lg) (hx : x.fits) (w : World) : Calls Try.prog 20 #[x.val] w fun e w' => Tells x e ∧ Fresh w w' := by
  obtain ⟨t0, t1, t2, t3, t4, f1, f2, f3, f4, off, lcid, s0, s1, s2, s3, s4, s5, s6, s7⟩ := x
  simp only [Lg.val]
  go_enter Try.func20, Try.ntmps20
  go_wp2_with (fail)
  go_loopw [27] (fun i wr => ∃ j : Nat, j ≤ 8 ∧ i = .int .i64 (j : Int) ∧ (∀ k (h : k < 8), k < j → fineText ([s0, s1, s2, s3, s4, s5, s6, s7][k]'h)) ∧ (∀ k (h : k < 8), wr.cell? ⟨w.heap.size + 1, k, none⟩ = some (.string ([s0, s1, s2, s3, s4, s5, s6, s7][k]'h))) ∧ Fresh (w.alloc (.cells #[.int .u32 t0, .int .u32 t1, .int .u32 t2, .int .u32 t3, .int .u32 t4, .int .i64 f1, .int .i64 f2, .int .i64 f3, .int .i64 f4, .int .i64 off, .int .u32 lcid, .string s0, .string s1, .string s2, .string s3, .string s4, .string s5, .string s6, .string s7] 38)) wr) (fun i _ => 8 - (intOf i).toNat)
  case atStart =>
    refine ⟨0, by omega, rfl, fun k _ h => by omega, fun k h => ?_, (Kept.refl _ _).alloc _⟩
    have := eight_new (w.alloc (.cells #[.int .u32 t0, .int .u32 t1, .int .u32 t2, .int .u32 t3, .int .u32 t4, .int .i64 f1, .int .i64 f2, .int .i64 f3, .int .i64 f4, .int .i64 off, .int .u32 lcid, .string s0, .string s1, .string s2, .string s3, .string s4, .string s5, .string s6, .string s7] 38)) s0 s1 s2 s3 s4 s5 s6 s7 9 k h
    simpa using this
  case round =>
    obtain ⟨j, hj, rfl, hfine, hcell, hF0⟩ := hrel
    have hF : Fresh w wr := ((Kept.refl w _).alloc _).fresh hF0
    by_cases hlt : j < 8
    · have hcj := hcell j hlt
      have hfit : ([s0, s1, s2, s3, s4, s5, s6, s7][j]'hlt).size ≤ 2147483647 := by
        unfold Lg.fits at hx
        have h := hx
        simp only at h
        match j, hlt with
        | 0, _ => show s0.size ≤ _; omega
        | 1, _ => show s1.size ≤ _; omega
        | 2, _ => show s2.size ≤ _; omega
        | 3, _ => show s3.size ≤ _; omega
        | 4, _ => show s4.size ≤ _; omega
        | 5, _ => show s5.size ≤ _; omega
        | 6, _ => show s6.size ≤ _; omega
        | 7, _ => show s7.size ≤ _; omega
        | j + 8, hlt => omega
      have HFI := Go.Lib.hid hfine
      have HCE := Go.Lib.hid hcell
      generalize hS : ([s0, s1, s2, s3, s4, s5, s6, s7][j]'hlt) = S at *
      have HS := Go.Lib.hid hS
      have HX := Go.Lib.hid hx
      clear hfine hcell hS hx
      have i1 : ((j : Nat) : Int) < 8 := by omega
      go_wp2_with (fail)
      refine (text_any S (by omega) _).mono ?_
      rintro e w1 ⟨rfl, p, rfl⟩
      cases ht : textB S with
      | false =>
        go_wp2
        go_ret
        exact ⟨⟨_, rfl, fun h => (by cases h)⟩, hF.fresh ((Kept.refl wr _).alloc _)⟩
      | true =>
        have HT := Go.Lib.hid ht
        clear ht
        go_wp2_with (fail)
        go_loopw [6] (fun _ wq => ∃ pos : Nat, AllOne S pos ∧ wq = (wr.iter S p).iter S pos) (fun _ wq => S.size - wq.iterPos (wr.iter S p).heap.size)
        case atStart => exact ⟨0, AllOne.start S, rfl⟩
        case round =>
          obtain ⟨pos, hA, rfl⟩ := hrel
          by_cases hp : pos < S.size
          · have hnx : ∀ ty, (Instr.next (.pointer (some ⟨(wr.iter S p).heap.size, 0, none⟩)) true ty).run Try.prog ((wr.iter S p).iter S pos) = _ := fun ty => run_next_any (wr.iter S p) S pos ty hp
            have hwd := width_pos S pos hp
            by_cases hbig : ((Utf8.decode S pos).1 : Int) ≤ 65535
            · have HN := Go.Lib.hid (hA.next hp hbig)
              go_wp2
              go_roundw
              case rel => exact ⟨_, HN.out, rfl⟩
              case measure => simp; omega
            · go_wp2
              go_ret
              exact ⟨⟨_, rfl, fun h => (by cases h)⟩, (hF.fresh ((Kept.refl wr _).alloc _)).fresh ((Kept.refl _ _).alloc _)⟩
          · have hnx : ∀ ty, (Instr.next (.pointer (some ⟨(wr.iter S p).heap.size, 0, none⟩)) true ty).run Try.prog ((wr.iter S p).iter S pos) = _ := fun ty => run_next_end (wr.iter S p) S pos ty hp
            have hfS : fineText S := ⟨HT.out, hA.done hp⟩
            have HFS := Go.Lib.hid hfS
            clear hfS
            go_wp2
            have hF2 : Fresh w ((wr.iter S p).iter S pos) := (hF.fresh ((Kept.refl wr _).alloc _)).fresh ((Kept.refl _ _).alloc _)
            have hFF : Fresh wr ((wr.iter S p).iter S pos) := ((Kept.refl wr _).alloc _).fresh ((Kept.refl _ _).alloc _)
            go_roundw
            case rel =>
              refine ⟨j + 1, by omega, by go_num, fun k h hk => ?_, fun k h => hFF.held (HCE.out k h) (fun h => h), hF0.fresh hFF⟩
              by_cases he : k < j
              · exact HFI.out k h he
              · obtain rfl : k = j := by omega
                rw [HS.out]
                exact HFS.out
            case measure => simp [intOf]; omega
    · obtain rfl : j = 8 := by omega
      have HFI := Go.Lib.hid hfine
      have HX := Go.Lib.hid hx
      have hnew : (w.alloc (.cells #[.int .u32 t0, .int .u32 t1, .int .u32 t2, .int .u32 t3, .int .u32 t4, .int .i64 f1, .int .i64 f2, .int .i64 f3, .int .i64 f4, .int .i64 off, .int .u32 lcid, .string s0, .string s1, .string s2, .string s3, .string s4, .string s5, .string s6, .string s7] 38)).heap[w.heap.size]? = _ := heap_alloc_new _ _
      have a5 : wr.cell? ⟨w.heap.size, 5, none⟩ = some (.int .i64 f1) := hF0.held (p := ⟨w.heap.size, 5, none⟩) (cell_of_row _ _ 5 _ _ _ hnew) (fun h => h)
      have a6 : wr.cell? ⟨w.heap.size, 6, none⟩ = some (.int .i64 f2) := hF0.held (p := ⟨w.heap.size, 6, none⟩) (cell_of_row _ _ 6 _ _ _ hnew) (fun h => h)
      have a7 : wr.cell? ⟨w.heap.size, 7, none⟩ = some (.int .i64 f3) := hF0.held (p := ⟨w.heap.size, 7, none⟩) (cell_of_row _ _ 7 _ _ _ hnew) (fun h => h)
      have a8 : wr.cell? ⟨w.heap.size, 8, none⟩ = some (.int .i64 f4) := hF0.held (p := ⟨w.heap.size, 8, none⟩) (cell_of_row _ _ 8 _ _ _ hnew) (fun h => h)
      have a9 : wr.cell? ⟨w.heap.size, 9, none⟩ = some (.int .i64 off) := hF0.held (p := ⟨w.heap.size, 9, none⟩) (cell_of_row _ _ 9 _ _ _ hnew) (fun h => h)
      clear hfine hx hnew hF0 hcell
      go_wp2_with (fail)
      go_loopw [52] (fun i wq => ∃ j : Nat, j ≤ 4 ∧ i = .int .i64 (j : Int) ∧ (∀ k (h : k < 4), k < j → 0 ≤ ([f1, f2, f3, f4][k]'h) ∧ ([f1, f2, f3, f4][k]'h) ≤ 255) ∧ wq = wr.alloc (.cells #[.int .i64 f1, .int .i64 f2, .int .i64 f3, .int .i64 f4] 3)) (fun i _ => 4 - (intOf i).toNat)
      case atStart => exact ⟨0, by omega, rfl, fun k _ h => by omega, rfl⟩
      case round =>
        obtain ⟨j, hj, rfl, hfl, rfl⟩ := hrel
        by_cases hlt4 : j < 4
        · have hcj := four_new wr f1 f2 f3 f4 3 j hlt4
          have HFL := Go.Lib.hid hfl
          generalize hS : ([f1, f2, f3, f4][j]'hlt4) = z at *
          have HS := Go.Lib.hid hS
          clear hfl hS
          have i1 : ((j : Nat) : Int) < 4 := by omega
          by_cases hz0 : z < 0
          · go_wp2
            go_ret
            exact ⟨⟨_, rfl, fun h => (by cases h)⟩, hF.fresh ((Kept.refl wr _).alloc _)⟩
          · by_cases hz1 : 255 < z
            · go_wp2
              go_ret
              exact ⟨⟨_, rfl, fun h => (by cases h)⟩, hF.fresh ((Kept.refl wr _).alloc _)⟩
            · go_wp2
              go_roundw
              case rel =>
                refine ⟨j + 1, by omega, by go_num, fun k h hk => ?_, trivial⟩
                by_cases he : k < j
                · exact HFL.out k h he
                · obtain rfl : k = j := by omega
                  rw [HS.out]
                  omega
              case measure => simp [intOf]; omega
        · obtain rfl : j = 4 := by omega
          have HFL := Go.Lib.hid hfl
          clear hfl
          have hA4 : Fresh wr (wr.alloc (.cells #[.int .i64 f1, .int .i64 f2, .int .i64 f3, .int .i64 f4] 3)) := (Kept.refl wr _).alloc _
          have b8 := hA4.held a8 (fun h => h)
          have b9 := hA4.held a9 (fun h => h)
          have hund : undef = Value.tuple #[] := rfl
          by_cases hb : bits .and .i64 f4 16 = 0
          · go_wp2_with (fail)
            refine (within4_any off _).mono ?_
            rintro e w2 ⟨rfl, rfl⟩
            go_wp2
            go_ret
            refine ⟨⟨_, rfl, fun h => ⟨?_, ?_, hb, ?_⟩⟩, hF.fresh hA4⟩
            · intro t ht
              obtain ⟨k, hk, rfl⟩ := List.mem_iff_getElem.1 ht
              exact HFI.out k hk hk
            · intro f hf
              obtain ⟨k, hk, rfl⟩ := List.mem_iff_getElem.1 hf
              exact HFL.out k hk hk
            · simpa using h
          · go_wp2
            go_ret
            exact ⟨⟨_, rfl, fun h => (by cases h)⟩, hF.fresh hA4⟩
end Go.Proofs.Ytahcaoenddapoaa
