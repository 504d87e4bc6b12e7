/- impl.FormatLogin. (Printed by genfl.py.) -/
import Derived.Test.YtahcaoenddapoaaFml
namespace Go.Proofs.Ytahcaoenddapoaa
open Go.RowKit

theorem pay_len (x : Lg) (hx : x.proper) : 94 ≤ x.pay.length ∧ x.pay.length ≤ 2000 := by
  have hl : ∀ s ∈ x.texts, (ucs (runesOf s)).length ≤ 120 := fun s hs => by
    have h1 := text_few s (hx.1 s hs).1
    have h2 := units_one _ (hx.1 s hs).2
    rw [ucs_length, h2]
    omega
  have h0 := hl x.s0 (by simp [Lg.texts])
  have h1 := hl x.s1 (by simp [Lg.texts])
  have h2 := hl x.s2 (by simp [Lg.texts])
  have h3 := hl x.s3 (by simp [Lg.texts])
  have h4 := hl x.s4 (by simp [Lg.texts])
  have h5 := hl x.s5 (by simp [Lg.texts])
  have h6 := hl x.s6 (by simp [Lg.texts])
  have h7 := hl x.s7 (by simp [Lg.texts])
  have e9 : (ucs (runesOf em)).length = 0 := rfl
  unfold Lg.pay payB
  simp only [List.length_append, hdrBytes_len, List.length_map, e9, List.length_nil]
  omega

theorem all_packed (c typ : Nat) (hc : 0 < c) (T : List Nat) : ∃ l, AllPacked c typ T l := by
  by_cases h0 : T.length = 0
  · exact ⟨_, 0, .inl rfl, by omega, rfl⟩
  · refine ⟨_, (T.length - 1) / c, ?_, ?_, rfl⟩
    · have := Nat.div_mul_le_self (T.length - 1) c
      rw [Nat.mul_comm] at this
      exact .inr (by omega)
    · have h1 := Nat.div_add_mod (T.length - 1) c
      have h2 := Nat.mod_lt (T.length - 1) hc
      omega


theorem login_new (x : Lg) (wc : World) : ∃ wd, (wc.alloc (.cells #[.int .u32 x.t0, .int .u32 x.t1, .int .u32 x.t2, .int .u32 x.t3, .int .u32 x.t4, .int .u8 x.f1, .int .u8 x.f2, .int .u8 x.f3, .int .u8 x.f4, .int .i32 x.off, .int .u32 x.lcid, .string x.s0, .string x.s1, .string x.s2, .string x.s3, .string x.s4, .string x.s5, .string x.s6, .string x.s7, .int .u8 0, .int .u8 0, .int .u8 0, .int .u8 0, .int .u8 0, .int .u8 0, .slice none 0 0, .string em, .string em] 85)).alloc (.cells #[.pointer (some ⟨wc.heap.size, 0, none⟩)] 82) = wd ∧ Lgn wc.heap.size x wd ∧ wd.cell? ⟨wc.heap.size + 1, 0, none⟩ = some (.pointer (some ⟨wc.heap.size, 0, none⟩)) ∧ Fresh wc wd := by
  refine ⟨_, rfl, ?_, ?_, ((Kept.refl _ _).alloc _).alloc _⟩
  · have hnew : (wc.alloc (.cells #[.int .u32 x.t0, .int .u32 x.t1, .int .u32 x.t2, .int .u32 x.t3, .int .u32 x.t4, .int .u8 x.f1, .int .u8 x.f2, .int .u8 x.f3, .int .u8 x.f4, .int .i32 x.off, .int .u32 x.lcid, .string x.s0, .string x.s1, .string x.s2, .string x.s3, .string x.s4, .string x.s5, .string x.s6, .string x.s7, .int .u8 0, .int .u8 0, .int .u8 0, .int .u8 0, .int .u8 0, .int .u8 0, .slice none 0 0, .string em, .string em] 85)).heap[wc.heap.size]? = _ := heap_alloc_new _ _
    have c := fun j => cell_of_row (wc.alloc (.cells #[.int .u32 x.t0, .int .u32 x.t1, .int .u32 x.t2, .int .u32 x.t3, .int .u32 x.t4, .int .u8 x.f1, .int .u8 x.f2, .int .u8 x.f3, .int .u8 x.f4, .int .i32 x.off, .int .u32 x.lcid, .string x.s0, .string x.s1, .string x.s2, .string x.s3, .string x.s4, .string x.s5, .string x.s6, .string x.s7, .int .u8 0, .int .u8 0, .int .u8 0, .int .u8 0, .int .u8 0, .int .u8 0, .slice none 0 0, .string em, .string em] 85)) wc.heap.size j _ _ _ hnew
    have hl : Lgn wc.heap.size x (wc.alloc (.cells #[.int .u32 x.t0, .int .u32 x.t1, .int .u32 x.t2, .int .u32 x.t3, .int .u32 x.t4, .int .u8 x.f1, .int .u8 x.f2, .int .u8 x.f3, .int .u8 x.f4, .int .i32 x.off, .int .u32 x.lcid, .string x.s0, .string x.s1, .string x.s2, .string x.s3, .string x.s4, .string x.s5, .string x.s6, .string x.s7, .int .u8 0, .int .u8 0, .int .u8 0, .int .u8 0, .int .u8 0, .int .u8 0, .slice none 0 0, .string em, .string em] 85)) := ⟨c 0, c 1, c 2, c 3, c 4, c 5, c 6, c 7, c 8, c 9, c 10, c 11, c 12, c 13, c 14, c 15, c 16, c 17, c 18, c 19, c 20, c 21, c 22, c 23, c 24, c 25, c 26, c 27⟩
    exact hl.fresh ((Kept.refl _ _).alloc _)
  · have hs : (wc.alloc (.cells #[.int .u32 x.t0, .int .u32 x.t1, .int .u32 x.t2, .int .u32 x.t3, .int .u32 x.t4, .int .u8 x.f1, .int .u8 x.f2, .int .u8 x.f3, .int .u8 x.f4, .int .i32 x.off, .int .u32 x.lcid, .string x.s0, .string x.s1, .string x.s2, .string x.s3, .string x.s4, .string x.s5, .string x.s6, .string x.s7, .int .u8 0, .int .u8 0, .int .u8 0, .int .u8 0, .int .u8 0, .int .u8 0, .slice none 0 0, .string em, .string em] 85)).heap.size = wc.heap.size + 1 := by simp
    rw [← hs, cell_of_row _ _ _ _ _ _ (heap_alloc_new _ _)]
    rfl

/-- T is the login's payload. -/
structure IsPay (x : Lg) (T : List Nat) : Prop where
  eq : x.pay = T

set_option maxRecDepth 100000 in
set_option maxHeartbeats 4000000 in
theorem formatLogin_any (x : Lg) (hx : x.proper) (hwf : x.wf) (hf : x.fits) (T : List Nat) (hT : IsPay x T) (w : World) :
    Calls Try.prog 21 #[x.val] w fun e w' => ∃ v, e = .returned (.tuple #[v, .bool true]) ∧ Bts w' v T ∧ Fresh w w' := by
  have hmf : ∀ (fn : Fn) (first cap : Array Value) (w : World), (Instr.makeFunc fn first cap).run Try.prog w = .ok (.func fn first cap) w := fun _ _ _ _ => rfl
  obtain ⟨l, hl⟩ := all_packed 32759 16 (by omega) T
  have HX := Go.Lib.hid hx
  have HWF := Go.Lib.hid hwf
  have HFI := Go.Lib.hid hf
  have HLL := Go.Lib.hid hl
  obtain ⟨xx, hxx⟩ : ∃ y, y = x := ⟨x, rfl⟩
  rw [← hxx] at HX HWF HFI hT
  rw [← hxx]
  obtain ⟨hx1, hfl, hx3, o0, o1⟩ := hx
  clear hx1 hx3
  have g1 := hfl x.f1 (by simp)
  have g2 := hfl x.f2 (by simp)
  have g3 := hfl x.f3 (by simp)
  have g4 := hfl x.f4 (by simp)
  clear hfl hwf hf hl
  obtain ⟨t0, t1, t2, t3, t4, f1, f2, f3, f4, off, lcid, s0, s1, s2, s3, s4, s5, s6, s7⟩ := x
  have hval : xx.val = .agg #[.int .u32 t0, .int .u32 t1, .int .u32 t2, .int .u32 t3, .int .u32 t4, .int .i64 f1, .int .i64 f2, .int .i64 f3, .int .i64 f4, .int .i64 off, .int .u32 lcid, .string s0, .string s1, .string s2, .string s3, .string s4, .string s5, .string s6, .string s7] := by rw [hxx]
  rw [hval]
  have HXX := Go.Lib.hid hxx
  clear hval hxx
  simp only at g1 g2 g3 g4 o0 o1
  obtain ⟨g10, g11⟩ := g1
  obtain ⟨g20, g21⟩ := g2
  obtain ⟨g30, g31⟩ := g3
  obtain ⟨g40, g41⟩ := g4
  have hnew : (w.alloc (.cells #[.int .u32 t0, .int .u32 t1, .int .u32 t2, .int .u32 t3, .int .u32 t4, .int .i64 f1, .int .i64 f2, .int .i64 f3, .int .i64 f4, .int .i64 off, .int .u32 lcid, .string s0, .string s1, .string s2, .string s3, .string s4, .string s5, .string s6, .string s7] 36)).heap[w.heap.size]? = _ := heap_alloc_new _ _
  have a0 : (w.alloc (.cells #[.int .u32 t0, .int .u32 t1, .int .u32 t2, .int .u32 t3, .int .u32 t4, .int .i64 f1, .int .i64 f2, .int .i64 f3, .int .i64 f4, .int .i64 off, .int .u32 lcid, .string s0, .string s1, .string s2, .string s3, .string s4, .string s5, .string s6, .string s7] 36)).cell? ⟨w.heap.size, 0, none⟩ = some (.int .u32 t0) := cell_of_row _ _ 0 _ _ _ hnew
  have a1 : (w.alloc (.cells #[.int .u32 t0, .int .u32 t1, .int .u32 t2, .int .u32 t3, .int .u32 t4, .int .i64 f1, .int .i64 f2, .int .i64 f3, .int .i64 f4, .int .i64 off, .int .u32 lcid, .string s0, .string s1, .string s2, .string s3, .string s4, .string s5, .string s6, .string s7] 36)).cell? ⟨w.heap.size, 1, none⟩ = some (.int .u32 t1) := cell_of_row _ _ 1 _ _ _ hnew
  have a2 : (w.alloc (.cells #[.int .u32 t0, .int .u32 t1, .int .u32 t2, .int .u32 t3, .int .u32 t4, .int .i64 f1, .int .i64 f2, .int .i64 f3, .int .i64 f4, .int .i64 off, .int .u32 lcid, .string s0, .string s1, .string s2, .string s3, .string s4, .string s5, .string s6, .string s7] 36)).cell? ⟨w.heap.size, 2, none⟩ = some (.int .u32 t2) := cell_of_row _ _ 2 _ _ _ hnew
  have a3 : (w.alloc (.cells #[.int .u32 t0, .int .u32 t1, .int .u32 t2, .int .u32 t3, .int .u32 t4, .int .i64 f1, .int .i64 f2, .int .i64 f3, .int .i64 f4, .int .i64 off, .int .u32 lcid, .string s0, .string s1, .string s2, .string s3, .string s4, .string s5, .string s6, .string s7] 36)).cell? ⟨w.heap.size, 3, none⟩ = some (.int .u32 t3) := cell_of_row _ _ 3 _ _ _ hnew
  have a4 : (w.alloc (.cells #[.int .u32 t0, .int .u32 t1, .int .u32 t2, .int .u32 t3, .int .u32 t4, .int .i64 f1, .int .i64 f2, .int .i64 f3, .int .i64 f4, .int .i64 off, .int .u32 lcid, .string s0, .string s1, .string s2, .string s3, .string s4, .string s5, .string s6, .string s7] 36)).cell? ⟨w.heap.size, 4, none⟩ = some (.int .u32 t4) := cell_of_row _ _ 4 _ _ _ hnew
  have a5 : (w.alloc (.cells #[.int .u32 t0, .int .u32 t1, .int .u32 t2, .int .u32 t3, .int .u32 t4, .int .i64 f1, .int .i64 f2, .int .i64 f3, .int .i64 f4, .int .i64 off, .int .u32 lcid, .string s0, .string s1, .string s2, .string s3, .string s4, .string s5, .string s6, .string s7] 36)).cell? ⟨w.heap.size, 5, none⟩ = some (.int .i64 f1) := cell_of_row _ _ 5 _ _ _ hnew
  have a6 : (w.alloc (.cells #[.int .u32 t0, .int .u32 t1, .int .u32 t2, .int .u32 t3, .int .u32 t4, .int .i64 f1, .int .i64 f2, .int .i64 f3, .int .i64 f4, .int .i64 off, .int .u32 lcid, .string s0, .string s1, .string s2, .string s3, .string s4, .string s5, .string s6, .string s7] 36)).cell? ⟨w.heap.size, 6, none⟩ = some (.int .i64 f2) := cell_of_row _ _ 6 _ _ _ hnew
  have a7 : (w.alloc (.cells #[.int .u32 t0, .int .u32 t1, .int .u32 t2, .int .u32 t3, .int .u32 t4, .int .i64 f1, .int .i64 f2, .int .i64 f3, .int .i64 f4, .int .i64 off, .int .u32 lcid, .string s0, .string s1, .string s2, .string s3, .string s4, .string s5, .string s6, .string s7] 36)).cell? ⟨w.heap.size, 7, none⟩ = some (.int .i64 f3) := cell_of_row _ _ 7 _ _ _ hnew
  have a8 : (w.alloc (.cells #[.int .u32 t0, .int .u32 t1, .int .u32 t2, .int .u32 t3, .int .u32 t4, .int .i64 f1, .int .i64 f2, .int .i64 f3, .int .i64 f4, .int .i64 off, .int .u32 lcid, .string s0, .string s1, .string s2, .string s3, .string s4, .string s5, .string s6, .string s7] 36)).cell? ⟨w.heap.size, 8, none⟩ = some (.int .i64 f4) := cell_of_row _ _ 8 _ _ _ hnew
  have a9 : (w.alloc (.cells #[.int .u32 t0, .int .u32 t1, .int .u32 t2, .int .u32 t3, .int .u32 t4, .int .i64 f1, .int .i64 f2, .int .i64 f3, .int .i64 f4, .int .i64 off, .int .u32 lcid, .string s0, .string s1, .string s2, .string s3, .string s4, .string s5, .string s6, .string s7] 36)).cell? ⟨w.heap.size, 9, none⟩ = some (.int .i64 off) := cell_of_row _ _ 9 _ _ _ hnew
  have a10 : (w.alloc (.cells #[.int .u32 t0, .int .u32 t1, .int .u32 t2, .int .u32 t3, .int .u32 t4, .int .i64 f1, .int .i64 f2, .int .i64 f3, .int .i64 f4, .int .i64 off, .int .u32 lcid, .string s0, .string s1, .string s2, .string s3, .string s4, .string s5, .string s6, .string s7] 36)).cell? ⟨w.heap.size, 10, none⟩ = some (.int .u32 lcid) := cell_of_row _ _ 10 _ _ _ hnew
  have a11 : (w.alloc (.cells #[.int .u32 t0, .int .u32 t1, .int .u32 t2, .int .u32 t3, .int .u32 t4, .int .i64 f1, .int .i64 f2, .int .i64 f3, .int .i64 f4, .int .i64 off, .int .u32 lcid, .string s0, .string s1, .string s2, .string s3, .string s4, .string s5, .string s6, .string s7] 36)).cell? ⟨w.heap.size, 11, none⟩ = some (.string s0) := cell_of_row _ _ 11 _ _ _ hnew
  have a12 : (w.alloc (.cells #[.int .u32 t0, .int .u32 t1, .int .u32 t2, .int .u32 t3, .int .u32 t4, .int .i64 f1, .int .i64 f2, .int .i64 f3, .int .i64 f4, .int .i64 off, .int .u32 lcid, .string s0, .string s1, .string s2, .string s3, .string s4, .string s5, .string s6, .string s7] 36)).cell? ⟨w.heap.size, 12, none⟩ = some (.string s1) := cell_of_row _ _ 12 _ _ _ hnew
  have a13 : (w.alloc (.cells #[.int .u32 t0, .int .u32 t1, .int .u32 t2, .int .u32 t3, .int .u32 t4, .int .i64 f1, .int .i64 f2, .int .i64 f3, .int .i64 f4, .int .i64 off, .int .u32 lcid, .string s0, .string s1, .string s2, .string s3, .string s4, .string s5, .string s6, .string s7] 36)).cell? ⟨w.heap.size, 13, none⟩ = some (.string s2) := cell_of_row _ _ 13 _ _ _ hnew
  have a14 : (w.alloc (.cells #[.int .u32 t0, .int .u32 t1, .int .u32 t2, .int .u32 t3, .int .u32 t4, .int .i64 f1, .int .i64 f2, .int .i64 f3, .int .i64 f4, .int .i64 off, .int .u32 lcid, .string s0, .string s1, .string s2, .string s3, .string s4, .string s5, .string s6, .string s7] 36)).cell? ⟨w.heap.size, 14, none⟩ = some (.string s3) := cell_of_row _ _ 14 _ _ _ hnew
  have a15 : (w.alloc (.cells #[.int .u32 t0, .int .u32 t1, .int .u32 t2, .int .u32 t3, .int .u32 t4, .int .i64 f1, .int .i64 f2, .int .i64 f3, .int .i64 f4, .int .i64 off, .int .u32 lcid, .string s0, .string s1, .string s2, .string s3, .string s4, .string s5, .string s6, .string s7] 36)).cell? ⟨w.heap.size, 15, none⟩ = some (.string s4) := cell_of_row _ _ 15 _ _ _ hnew
  have a16 : (w.alloc (.cells #[.int .u32 t0, .int .u32 t1, .int .u32 t2, .int .u32 t3, .int .u32 t4, .int .i64 f1, .int .i64 f2, .int .i64 f3, .int .i64 f4, .int .i64 off, .int .u32 lcid, .string s0, .string s1, .string s2, .string s3, .string s4, .string s5, .string s6, .string s7] 36)).cell? ⟨w.heap.size, 16, none⟩ = some (.string s5) := cell_of_row _ _ 16 _ _ _ hnew
  have a17 : (w.alloc (.cells #[.int .u32 t0, .int .u32 t1, .int .u32 t2, .int .u32 t3, .int .u32 t4, .int .i64 f1, .int .i64 f2, .int .i64 f3, .int .i64 f4, .int .i64 off, .int .u32 lcid, .string s0, .string s1, .string s2, .string s3, .string s4, .string s5, .string s6, .string s7] 36)).cell? ⟨w.heap.size, 17, none⟩ = some (.string s6) := cell_of_row _ _ 17 _ _ _ hnew
  have a18 : (w.alloc (.cells #[.int .u32 t0, .int .u32 t1, .int .u32 t2, .int .u32 t3, .int .u32 t4, .int .i64 f1, .int .i64 f2, .int .i64 f3, .int .i64 f4, .int .i64 off, .int .u32 lcid, .string s0, .string s1, .string s2, .string s3, .string s4, .string s5, .string s6, .string s7] 36)).cell? ⟨w.heap.size, 18, none⟩ = some (.string s7) := cell_of_row _ _ 18 _ _ _ hnew
  have hFB : Fresh w (w.alloc (.cells #[.int .u32 t0, .int .u32 t1, .int .u32 t2, .int .u32 t3, .int .u32 t4, .int .i64 f1, .int .i64 f2, .int .i64 f3, .int .i64 f4, .int .i64 off, .int .u32 lcid, .string s0, .string s1, .string s2, .string s3, .string s4, .string s5, .string s6, .string s7] 36)) := (Kept.refl w _).alloc _
  clear hnew
  go_enter Try.func21, Try.ntmps21
  go_wp2_with (fail)
  have hws : (w.alloc (.cells #[.int .u32 t0, .int .u32 t1, .int .u32 t2, .int .u32 t3, .int .u32 t4, .int .i64 f1, .int .i64 f2, .int .i64 f3, .int .i64 f4, .int .i64 off, .int .u32 lcid, .string s0, .string s1, .string s2, .string s3, .string s4, .string s5, .string s6, .string s7] 36)).heap.size = w.heap.size + 1 := by simp
  generalize hWB : (w.alloc (.cells #[.int .u32 t0, .int .u32 t1, .int .u32 t2, .int .u32 t3, .int .u32 t4, .int .i64 f1, .int .i64 f2, .int .i64 f3, .int .i64 f4, .int .i64 off, .int .u32 lcid, .string s0, .string s1, .string s2, .string s3, .string s4, .string s5, .string s6, .string s7] 36)) = wb at *
  have HWS := Go.Lib.hid hws
  clear hws
  have HWB := Go.Lib.hid hWB
  clear hWB
  have HWX : Go.RowKit.Hid (IntKind.i32.wrap off = off) := Go.Lib.hid (IntWalk.i32_in off (by omega))
  have HO0 := Go.Lib.hid o0
  have HO1 := Go.Lib.hid o1
  clear o0 o1
  go_loopw [17] (fun i wq => ∃ j : Nat, j ≤ 4 ∧ i = .int .i64 (j : Int) ∧ wq = wb.alloc (.cells #[.int .i64 f1, .int .i64 f2, .int .i64 f3, .int .i64 f4] 3)) (fun i _ => 4 - (intOf i).toNat)
  case atStart => exact ⟨0, by omega, rfl, rfl⟩
  case round =>
    obtain ⟨j, hj, rfl, rfl⟩ := hrel
    by_cases hlt4 : j < 4
    · have hcj := four_new wb f1 f2 f3 f4 3 j hlt4
      rw [HWS.out] at hcj
      have hz : 0 ≤ ([f1, f2, f3, f4][j]'hlt4) ∧ ([f1, f2, f3, f4][j]'hlt4) ≤ 255 := by
        match j, hlt4 with
        | 0, _ => exact ⟨g10, g11⟩
        | 1, _ => exact ⟨g20, g21⟩
        | 2, _ => exact ⟨g30, g31⟩
        | 3, _ => exact ⟨g40, g41⟩
        | j + 4, h => omega
      generalize ([f1, f2, f3, f4][j]'hlt4) = z at *
      obtain ⟨hz0, hz1⟩ := hz
      have i1 : ((j : Nat) : Int) < 4 := by omega
      have hwz : IntKind.u8.wrap z = z := by rw [IntKind.wrap_u8]; omega
      go_wp2
      go_roundw
      case rel => exact ⟨j + 1, by omega, by go_num, trivial⟩
      case measure => simp [intOf]; omega
    · obtain rfl : j = 4 := by omega
      have w1 : IntKind.u8.wrap f1 = f1 := by rw [IntKind.wrap_u8]; omega
      have w2 : IntKind.u8.wrap f2 = f2 := by rw [IntKind.wrap_u8]; omega
      have w3 : IntKind.u8.wrap f3 = f3 := by rw [IntKind.wrap_u8]; omega
      have w4 : IntKind.u8.wrap f4 = f4 := by rw [IntKind.wrap_u8]; omega
      have hwx := HWX.out
      have o0 := HO0.out
      have o1 := HO1.out
      have hF2 : Fresh wb (wb.alloc (.cells #[.int .i64 f1, .int .i64 f2, .int .i64 f3, .int .i64 f4] 3)) := (Kept.refl _ _).alloc _
      have b0 := hF2.held a0 (fun h => h)
      have b1 := hF2.held a1 (fun h => h)
      have b2 := hF2.held a2 (fun h => h)
      have b3 := hF2.held a3 (fun h => h)
      have b4 := hF2.held a4 (fun h => h)
      have b5 := hF2.held a5 (fun h => h)
      have b6 := hF2.held a6 (fun h => h)
      have b7 := hF2.held a7 (fun h => h)
      have b8 := hF2.held a8 (fun h => h)
      have b9 := hF2.held a9 (fun h => h)
      have b10 := hF2.held a10 (fun h => h)
      have b11 := hF2.held a11 (fun h => h)
      have b12 := hF2.held a12 (fun h => h)
      have b13 := hF2.held a13 (fun h => h)
      have b14 := hF2.held a14 (fun h => h)
      have b15 := hF2.held a15 (fun h => h)
      have b16 := hF2.held a16 (fun h => h)
      have b17 := hF2.held a17 (fun h => h)
      have b18 := hF2.held a18 (fun h => h)
      clear a0 a1 a2 a3 a4 a5 a6 a7 a8 a9 a10 a11 a12 a13 a14 a15 a16 a17 a18
      have HFW := Go.Lib.hid (hFB.fresh hF2)
      generalize hWC : wb.alloc (.cells #[.int .i64 f1, .int .i64 f2, .int .i64 f3, .int .i64 f4] 3) = wc at *
      have HWC := Go.Lib.hid hWC
      clear hWC
      have hFC : Fresh w wc := HFW.out
      obtain ⟨wd, hwd, hLD, hpd, hFD⟩ := login_new xx wc
      rw [HXX.out] at hwd
      have HLD := Go.Lib.hid hLD
      have HWD := Go.Lib.hid hwd
      clear hwd hLD
      go_wp2_with (fail)
      have hwd2 := HWD.out
      rw [show (Value.string ⟨#[]⟩) = Value.string em from rfl, hwd2]
      clear hwd2
      have hpl := pay_len xx HX.out
      rw [hT.eq] at hpl
      have hl1 := HLL.out.few (by omega) (by omega)
      have hst := Go.Lib.hid (str_all (ps := 32767) HLL.out (by omega) (by omega) (by omega))
      refine (made_any 48 _ l (by omega) wd (enter48 _) (fun W hW => send1_any wc.heap.size (wc.heap.size + 1) xx HX.out HWF.out HFI.out l (by rw [hT.eq]; exact HLL.out) W (HLD.out.fresh hW) (hW.held hpd (fun h => h)))).mono ?_
      rintro e w5 ⟨v5, rfl, hr5, hF5⟩
      obtain ⟨A5, c5, rfl⟩ := hr5.slice
      have HR5 := Go.Lib.hid hr5.bts
      have HF5 := Go.Lib.hid ((hFC.fresh hFD).fresh hF5)
      clear hr5 hF5
      go_wp2_with (fail)
      refine (payload_any 16 l T (by omega) hst.out (by omega) (by omega) A5 _ c5 w5 HR5.out).mono ?_
      rintro e w6 ⟨v6, rfl, hr6, hF6⟩
      have HR6 := Go.Lib.hid hr6.bts
      have HF6 := Go.Lib.hid (HF5.out.fresh hF6)
      clear hr6 hF6
      go_wp2
      go_ret2
      exact ⟨v6, rfl, HR6.out, HF6.out⟩
end Go.Proofs.Ytahcaoenddapoaa
