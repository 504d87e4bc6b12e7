/- A message through a tdsBuffer: BeginPacket, FinishPacket, what is written, and a new buffer. -/
import Derived.Test.YtahcaoenddapoaaWrite
namespace Go.Proofs.Ytahcaoenddapoaa
open Go.RowKit

set_option maxRecDepth 100000 in
set_option maxHeartbeats 1000000 in
theorem begin_any (base g hb bb ps N C pos seq typ0 typ : Nat) (v : Value) (out L : List Nat) (w : World) (hR : Raw w base g hb bb ps N C pos seq typ0 v out L) (h9 : 9 ≤ N) (hNC : N < C) :
    Calls Try.prog 77 #[.pointer (some ⟨g, 0, none⟩), .int .u8 typ, .bool false] w fun e w' => e = .returned (.tuple #[]) ∧ Raw w' base g hb bb ps N C 8 1 typ v out (L.set 1 0) ∧ Kept w w' (RawS g hb bb v) := by
  have hL := hR.len
  have c2 := hR.c2
  have h1 := hR.blk.cellAt 1 (by omega)
  have f1 := hR.blk.frozenAt 1
  have n1 : (1 : Int) < (N : Int) := by omega
  have n1' : 1 < N := by omega
  generalize L[1] = L1 at *
  have R1 : Raw (w.setCell ⟨hb, 1, none⟩ (.int .u8 0)) base g hb bb ps N C pos seq typ0 v out (L.set 1 0) := hR.set 1 0
  have R2 := R1.cell 3 R1.c3 (u := .int .i64 8) (pos' := 8) (seq' := seq) (typ' := typ0) rfl rfl rfl (by decide) (by decide) (by decide) (by decide)
  have R3 := R2.cell 4 R2.c4 (u := .int .u8 1) (pos' := 8) (seq' := 1) (typ' := typ0) rfl rfl rfl (by decide) (by decide) (by decide) (by decide)
  have R4 := R3.cell 5 R3.c5 (u := .int .u8 typ) (pos' := 8) (seq' := 1) (typ' := typ) rfl rfl rfl (by decide) (by decide) (by decide) (by decide)
  have K4 : Kept w _ (RawS g hb bb v) := ((((Kept.refl w (RawS g hb bb v)).setCell (p := ⟨hb, 1, none⟩) (.inl (.inr (.inl rfl))) (.int .u8 0)).setCell (p := ⟨g, 3, none⟩) (.inl (.inl rfl)) (.int .i64 8)).setCell (p := ⟨g, 4, none⟩) (.inl (.inl rfl)) (.int .u8 1)).setCell (p := ⟨g, 5, none⟩) (.inl (.inl rfl)) (.int .u8 typ)
  have d3 := R1.c3
  have d4 := R2.c4
  have d5 := R3.c5
  have e3 := R1.frz 3
  have e4 := R2.frz 4
  have e5 := R3.frz 5
  have HR4 := Go.Lib.hid R4
  have HK4 := Go.Lib.hid K4
  clear R1 R2 R3 R4 K4
  go_enter Try.func77, Try.ntmps77
  go_wp2
  go_end0
  exact ⟨rfl, HR4.out, HK4.out⟩

set_option maxRecDepth 100000 in
set_option maxHeartbeats 1000000 in
theorem finish_any (base g hb bb ps N C typ k : Nat) (v : Value) (T : List Nat) (w : World) (hO : Out w base g hb bb ps N C typ k v T)
    (h9 : 9 ≤ ps) (hpN : ps ≤ N) (hNC : N < C) (hN : N ≤ 32768) (hC : C ≤ 70000) (hbase : base ≤ w.heap.size) (hT : T.length ≤ 200000) :
    Calls Try.prog 79 #[.pointer (some ⟨g, 0, none⟩)] w fun e w' => e = .returned .nilIface ∧ ∃ v' L seq, Raw w' base g hb bb ps N C 8 seq typ v' (packed (ps - 8) typ k T) L ∧ Kept w w' (RawS g hb bb v) ∧ Moved w v v' := by
  obtain ⟨a1, a2, L, hR, hH⟩ := hO
  generalize hD : T.drop ((ps - 8) * k) = D at *
  have hDl : D.length + (ps - 8) * k = T.length := by rw [← hD, List.length_drop]; omega
  have hpl := packs_length (ps - 8) typ T k a1
  have hk1 := Nat.le_mul_of_pos_left k (show 0 < ps - 8 by omega)
  have hk2 : (ps - 8 + 8) * k = (ps - 8) * k + 8 * k := Nat.add_mul _ _ _
  have hL := hR.len
  have c2 := hR.c2
  have h1 := hR.blk.cellAt 1 (by omega)
  have f1 := hR.blk.frozenAt 1
  have hz : L[1] = 0 := by
    obtain ⟨x0, x2, x3, x6, r, rfl⟩ := hH
    rfl
  rw [hz] at h1
  clear hz
  have n1 : (1 : Int) < (N : Int) := by omega
  have n1' : 1 < N := by omega
  have R1 := hR.set 1 1
  have H1 : Hd (L.set 1 1) 1 D := by
    obtain ⟨x0, x2, x3, x6, r, rfl⟩ := hH
    exact ⟨x0, x2, x3, x6, r, rfl⟩
  have K1 : Kept w (w.setCell ⟨hb, 1, none⟩ (.int .u8 ((1 : Nat) : Int))) (RawS g hb bb v) := (Kept.refl w (RawS g hb bb v)).setCell (p := ⟨hb, 1, none⟩) (.inl (.inr (.inl rfl))) _
  have hs1 := K1.size
  have HR1 := Go.Lib.hid R1
  have HK1 := Go.Lib.hid K1
  have hor : bits .or .u8 0 1 = 1 := by decide
  clear R1 K1
  go_enter Try.func79, Try.ntmps79
  go_wp2_with (fail)
  refine (flush_any base g hb bb ps N C (8 + D.length) ((k + 1) % 256) typ v _ _ _ HR1.out (by omega) (by omega) (by omega) hN hC (by omega) (by omega)).mono ?_
  rintro e w2 ⟨rfl, v', R2, K2, M2⟩
  obtain ⟨g1, g2⟩ := H1.flush typ ((k + 1) % 256)
  rw [g1] at R2
  have HR2 := Go.Lib.hid R2
  clear R2 g1 g2
  go_wp2
  go_ret
  refine ⟨rfl, v', _, _, by rw [packed, hD]; exact HR2.out, HK1.out.trans K2 (fun _ _ h => h), fun b hb' => (M2 b hb').imp id (fun h => by omega)⟩

theorem assertBuf (x : Value) (W : World) : (Instr.typeAssert (.iface 144 x) 148 144 false).run Try.prog W = .ok x W := by kernel_rfl

set_option maxRecDepth 100000 in
set_option maxHeartbeats 1000000 in
theorem written_any (base g hb bb ps N C pos seq typ : Nat) (v : Value) (out L : List Nat) (w : World) (hR : Raw w base g hb bb ps N C pos seq typ v out L) :
    Calls Try.prog 80 #[.pointer (some ⟨g, 0, none⟩)] w fun e w' => e = .returned v ∧ w' = w := by
  have c0 := hR.c0
  have c1 := hR.wr.cell
  have hta := assertBuf
  go_enter Try.func80, Try.ntmps80
  go_wp2
  go_ret
  exact ⟨rfl, rfl⟩
end Go.Proofs.Ytahcaoenddapoaa
