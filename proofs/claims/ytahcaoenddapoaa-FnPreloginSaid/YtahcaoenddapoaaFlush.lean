/- (*Buffer).Write and (*tdsBuffer).flush. -/
import Derived.Test.YtahcaoenddapoaaRaw
import Derived.Test.YtahcaoenddapoaaPkt
import Derived.Test.YtahcaoenddapoaaQuiet
import Derived.StillTailTactics
import Derived.BigRegion
import Derived.Deep.RegionWith
namespace Go.Proofs.Ytahcaoenddapoaa
open Go.RowKit

set_option maxRecDepth 100000 in
theorem bufWrite_any (p : Nat) (v x : Value) (l m : List Nat) (base : Nat) (hl : l.length + m.length ≤ 140737488355328) (w : World) (hw : Wr w base p v l) (hx : Bts w x m) (hb : base ≤ w.heap.size) :
    Calls Try.prog 219 #[.pointer (some ⟨p, 0, none⟩), x] w fun e w' => e = .returned (.tuple #[.int .i64 (m.length : Int), .nilIface]) ∧ ∃ v', Wr w' base p v' (l ++ m) ∧ Kept w w' (WrS p v) ∧ Moved w v v' := by
  obtain ⟨i0, hi, hz0, hz1, hz2⟩ := info_parts info5
  have hcu := hw.cell
  have hfu := hw.frz
  obtain ⟨A, c, rfl, hlc⟩ := hx.slice
  go_enter Try.func219, Try.ntmps219
  go_wp2_with (at_builtin; refine wpList_append_bts _ rfl (.tmp 10) (.tmp 11) 24 24 rfl base i0 Try.underlying24 Try.underlying24 hi hz0 hz1 hz2 v (.slice A m.length c) rfl rfl l m hw.row hx hl hb ?_; intro A' c' w1 hr1 hg1 hm1; obtain ⟨hcp, hfp⟩ := hw.after (Kept.refl w _) hg1)
  go_ret2
  obtain ⟨s1, s2, s3⟩ := hw.step (Kept.refl w _) hr1 hg1 hm1
  exact ⟨rfl, _, s1, s2, s3⟩

/-- The header that flush writes. -/
def headed (L : List Nat) (typ pos seq : Nat) : List Nat := (((L.set 0 typ).set 2 (pos / 256 % 256)).set 3 (pos % 256)).set 6 seq
theorem headed_length (L : List Nat) (typ pos seq : Nat) : (headed L typ pos seq).length = L.length := by simp [headed]

theorem noFunc (W : World) : (binOp BinOp.neq 1 Value.nilFunc Value.nilFunc).run Try.prog W = .ok (.bool false) W := by kernel_rfl
theorem methWrite (x : Value) (W : World) : (method 389 144 x "Write").run Try.prog W = .ok (219, x) W := by kernel_rfl
theorem enter219 (args : Array Value) (W : World) : (callFunc 219 args).run Try.prog W = .ok (.enter 219 args) W := run_enter Try.func219 (by kernel_rfl) (by kernel_rfl) args W

set_option maxRecDepth 100000 in
set_option maxHeartbeats 4000000 in
theorem flush_any (base g hb bb ps N C pos seq typ : Nat) (v : Value) (out L : List Nat) (w : World) (hR : Raw w base g hb bb ps N C pos seq typ v out L)
    (h8 : 8 ≤ pos) (hpN : pos ≤ N) (hNC : N ≤ C) (hN : N ≤ 32768) (hC : C ≤ 70000) (hbase : base ≤ w.heap.size) (ho : out.length ≤ 4000000) :
    Calls Try.prog 104 #[.pointer (some ⟨g, 0, none⟩)] w fun e w' => e = .returned .nilIface ∧ ∃ v', Raw w' base g hb bb ps N C 8 ((seq + 1) % 256) typ v' (out ++ (headed L typ pos seq).take pos) (headed L typ pos seq) ∧ Kept w w' (RawS g hb bb v) ∧ Moved w v v' := by
  have hL := hR.len
  have c2 := hR.c2
  have c5 := hR.c5
  have h0 := hR.blk.cellAt 0 (by omega)
  have f0 := hR.blk.frozenAt 0
  generalize L[0] = L0 at *
  have n0 : (0 : Int) < (N : Int) := by omega
  have n0' : 0 < N := by omega
  go_enter Try.func104, Try.ntmps104
  go_wp2_with (fail)
  go_still_tail 9, (by kernel_rfl)
  go_wp2_with (fail)
  have R1 := (hR.set 0 typ).fresh (Kept.refl _ _).drew
  have K1 : Kept w (w.setCell ⟨hb, 0, none⟩ (.int .u8 typ)).drew (RawS g hb bb v) := ((Kept.refl w _).setCell (.inl (.inr (.inl rfl))) _).drew
  generalize (w.setCell ⟨hb, 0, none⟩ (.int .u8 typ)).drew = W1 at *
  clear c2 c5 h0 f0
  have c2 := R1.c2
  have c3 := R1.c3
  have n2 : (2 : Int) ≤ (N : Int) := by omega
  have nc : ¬ C = 2 := by omega
  go_still_tail 10, (by kernel_rfl)
  go_wp2_with (fail)
  have R1d := R1.fresh (Kept.refl W1 _).drew
  refine (bePut_any hb 2 (N - 2) _ pos (by omega) (by omega) _ _ R1d.blk (by rw [R1.len]; omega)).mono ?_
  rintro e W2 ⟨rfl, B2, K2⟩
  have R2 := R1d.arr K2 B2 (by simp)
  have K2' := (K1.drew).trans K2 (fun k _ e => .inr (.inl e))
  clear R1 R1d B2 K1 K2 c2 c3
  have c2 := R2.c2
  have c4 := R2.c4
  have n6 : (6 : Int) < (N : Int) := by omega
  have h6 := R2.blk.cellAt 6 (by rw [R2.len]; omega)
  have f6 := R2.blk.frozenAt 6
  generalize hL2 : ((L.set 0 typ).set 2 (pos / 256 % 256)).set (2 + 1) (pos % 256) = L2 at *
  have hHL : headed L typ pos seq = L2.set 6 seq := congrArg (fun l : List Nat => l.set 6 seq) hL2
  have HHL := Go.Lib.hid hHL
  clear hL2 hHL
  go_wp2_with (fail)
  go_still_tail 9, (by kernel_rfl)
  go_wp2_with (fail)
  have R3 := (R2.set 6 seq).fresh (Kept.refl _ _).drew
  have K3 : Kept w (W2.setCell ⟨hb, 6, none⟩ (.int .u8 seq)).drew (RawS g hb bb v) := (K2'.setCell (.inl (.inr (.inl rfl))) _).drew
  generalize (W2.setCell ⟨hb, 6, none⟩ (.int .u8 seq)).drew = W3 at *
  clear K2' R2 c2 c4 h6 f6
  have c0 := R3.c0
  have c2 := R3.c2
  have c3 := R3.c3
  have pc : ((pos : Nat) : Int) ≤ (C : Int) := by omega
  have p0 : (0 : Int) ≤ ((pos : Nat) : Int) := by omega
  have cz : ¬ C = 0 := by omega
  have R3d := R3.fresh (Kept.refl W3 _).drew
  have hx := R3d.blk.bts 0 pos C (by rw [R3.len]; omega) (by omega) (by unfold maxLen; omega)
  rw [List.drop_zero] at hx
  have hxl : (List.take pos (List.set L2 6 seq)).length = pos := by rw [List.length_take, R3.len]; omega
  have HXL := Go.Lib.hid hxl
  have hln : out.length + (List.take pos (List.set L2 6 seq)).length ≤ 140737488355328 := by omega
  have hbs : base ≤ W3.drew.heap.size := by have := K3.size; simp; omega
  clear hxl
  have hme := methWrite
  have hen := enter219
  have hund : undef = Value.tuple #[] := rfl
  first
    | go_region_with (go_at_call 219; refine (bufWrite_any bb v _ out _ base hln _ R3d.wr hx hbs).mono ?_; rintro e W4 ⟨rfl, v', hw4, K4, M4⟩)
    | fail
  all_goals
    have R4 := R3d.sent K4 hw4 M4
    have K4' : Kept w W4 (RawS g hb bb v) := (K3.drew).trans K4 (fun k _ e => by rcases e with e | e; exact .inr (.inr (.inl e)); exact .inr (.inr (.inr e)))
    have M4' : Moved w v v' := fun k hk => (M4 k hk).imp id (fun h => by have := K3.size; simp at h; omega)
    clear R3 R3d K3 K4 M4 hw4 hx c0 c2 c3
    have c11 := R4.c11
    have c3 := R4.c3
    have c4 := R4.c4
    have f3 := R4.frz 3
    have f4 := R4.frz 4
    have hnf := noFunc
    go_wp2
    go_ret
    have R5 := R4.cell 3 c3 (u := .int .i64 8) (pos' := 8) (seq' := seq) (typ' := typ) rfl rfl rfl (by decide) (by decide) (by decide) (by decide)
    have R6 := R5.cell 4 R5.c4 (u := .int .u8 (((seq + 1) % 256 : Nat) : Int)) (pos' := 8) (seq' := (seq + 1) % 256) (typ' := typ) rfl rfl rfl (by decide) (by decide) (by decide) (by decide)
    have e1 : (((seq + 1) % 256 : Nat) : Int) = ((seq : Int) + 1) % 256 := by omega
    rw [e1] at R6
    rw [HHL.out]
    refine ⟨rfl, v', R6, ?_, M4'⟩
    exact (K4'.setCell (p := ⟨g, 3, none⟩) (.inl (.inl rfl)) _).setCell (p := ⟨g, 4, none⟩) (.inl (.inl rfl)) _
end Go.Proofs.Ytahcaoenddapoaa
