/- StringToDecimalScale. -/
import Derived.Test.YthmopakaikhjlaaGreatDoorLib
import Derived.Test.YthmopakaikhjlaaGreatDoorWqs
import Derived.Deep.QuietTactic
import Derived.BigQuiet
import Derived.Deep.Cut
import Derived.StillTailTactics
namespace Go.Proofs.YthmopakaikhjlaaGreatDoor
open Go.RowKit

/-- The text t is s without its last point, which leaves sc digits behind it. -/
inductive Clean (s t : ByteArray) (sc : Nat) : Prop
  | none (h : LastP s 0) (ht : t = s) (h0 : sc = 0) : Clean s t sc
  | some (p : Nat) (h : LastP s (p + 1)) (ht : t = s.extract 0 p ++ s.extract (p + 1) s.size) (h0 : s.size = p + 1 + sc) : Clean s t sc

theorem u32_stored {w : World} {X : Nat} {C : List Nat} {T : TypeId} (h : w.heap[X]? = some (.cells (ints .u32 C).toArray T (0, 0))) (j x : Nat) : (w.setCell ⟨X, j, none⟩ (.int .u32 (x : Int))).heap[X]? = some (.cells (ints .u32 (C.set j x)).toArray T (0, 0)) := by
  rw [heap_setCell_same w X j _ T _ h]
  simp [ints, List.map_set]
/-- One more byte: what the loop holds. -/
theorem byte_in (n i q rr b x m : Nat) (g : Nat → Nat) (B : List Nat) (hin : i < n) (hpos : n - i - 1 = 4 * q + rr) (hb : b < 256) (hm : m = x + b * 256 ^ rr) (hg : ∀ j, g j < 256) (hg0 : ∀ j, j < n - i → g j = 0) (hv : dnw g = bev (B.take i) * 256 ^ (n - i))
    (hw1 : ws (upd g (4 * q + rr) b) = (ws g).set q (x + b * 256 ^ rr)) (hw2 : dnw (upd g (4 * q + rr) b) = dnw g + b * 256 ^ (4 * q + rr)) (htk : B.take (i + 1) = B.take i ++ [b]) :
    ws (upd g (4 * q + rr) b) = (ws g).set q m ∧ (∀ j, upd g (4 * q + rr) b j < 256) ∧ (∀ j, j < n - (i + 1) → upd g (4 * q + rr) b j = 0) ∧ dnw (upd g (4 * q + rr) b) = bev (B.take (i + 1)) * 256 ^ (n - (i + 1)) := by
  refine ⟨by rw [hm]; exact hw1, fun j => upd_lt g _ b hg hb j, fun j hj => ?_, ?_⟩
  · rw [upd_off _ _ _ _ (by omega)]; exact hg0 j (by omega)
  · rw [hw2, hv, htk, bev_snoc, show n - i = (4 * q + rr) + 1 by omega, show n - (i + 1) = 4 * q + rr by omega, Nat.pow_succ, Nat.add_mul, Nat.mul_assoc, Nat.mul_comm 256]

/-- A Decimal's block that may be written. -/
structure DeciF (w : World) (d : Nat) (x0 x1 x2 x3 : Nat) (p : Bool) (pr sc : Int) : Prop where
  v : Deci w d x0 x1 x2 x3 p pr sc
  f : ∀ j, w.frozen? ⟨d, j, none⟩ = false
theorem DeciF.kept {w w' : World} {d x0 x1 x2 x3 : Nat} {p : Bool} {pr sc : Int} {S : Nat → Prop} (h : DeciF w d x0 x1 x2 x3 p pr sc) (hk : Kept w w' S) (hS : ¬ S d) : DeciF w' d x0 x1 x2 x3 p pr sc :=
  ⟨h.v.kept hk hS, fun j => (hk.frozen (p := ⟨d, j, none⟩) h.v.lt hS).trans (h.f j)⟩
theorem DeciF.new (w : World) (x0 x1 x2 x3 : Nat) (p : Bool) (pr sc : Int) (T : TypeId) : DeciF (w.alloc (.cells (decCells x0 x1 x2 x3 p pr sc) T)) w.heap.size x0 x1 x2 x3 p pr sc :=
  ⟨Deci.new w x0 x1 x2 x3 p pr sc T, fun j => frozen_of_row _ _ j _ T (heap_new w _)⟩

theorem Deci.put {w : World} {d : Nat} {y0 y1 y2 y3 : Nat} {q : Bool} {pr0 sc0 : Int} (h : Deci w d y0 y1 y2 y3 q pr0 sc0) (x0 x1 x2 x3 : Nat) (p : Bool) (pr sc : Int) :
    Deci (((((((w.setCell ⟨d, 0, none⟩ (.int .u32 (x0 : Int))).setCell ⟨d, 1, none⟩ (.int .u32 (x1 : Int))).setCell ⟨d, 2, none⟩ (.int .u32 (x2 : Int))).setCell ⟨d, 3, none⟩ (.int .u32 (x3 : Int))).setCell ⟨d, 4, none⟩ (.bool p)).setCell ⟨d, 5, none⟩ (.int .u8 pr)).setCell ⟨d, 6, none⟩ (.int .u8 sc)) d x0 x1 x2 x3 p pr sc := by
  have ho : ∀ (W : World) (i j : Nat) (v u : Value), i ≠ j → W.cell? ⟨d, i, none⟩ = some u → (W.setCell ⟨d, j, none⟩ v).cell? ⟨d, i, none⟩ = some u := fun W i j v u hij hw => by
    rw [World.cell?_setCell_other _ _ _ _ (by intro e; injection e with e1 e2; omega)]; exact hw
  have hs : ∀ (W : World) (i : Nat) (v u : Value), W.cell? ⟨d, i, none⟩ = some u → (W.setCell ⟨d, i, none⟩ v).cell? ⟨d, i, none⟩ = some v := fun W i v u hw => World.cell?_setCell_same _ _ _ hw
  constructor
  · exact ho _ _ _ _ _ (by decide) (ho _ _ _ _ _ (by decide) (ho _ _ _ _ _ (by decide) (ho _ _ _ _ _ (by decide) (ho _ _ _ _ _ (by decide) (ho _ _ _ _ _ (by decide) (hs _ _ _ _ h.c0))))))
  · exact ho _ _ _ _ _ (by decide) (ho _ _ _ _ _ (by decide) (ho _ _ _ _ _ (by decide) (ho _ _ _ _ _ (by decide) (ho _ _ _ _ _ (by decide) (hs _ _ _ _ (ho _ _ _ _ _ (by decide) h.c1))))))
  · exact ho _ _ _ _ _ (by decide) (ho _ _ _ _ _ (by decide) (ho _ _ _ _ _ (by decide) (ho _ _ _ _ _ (by decide) (hs _ _ _ _ (ho _ _ _ _ _ (by decide) (ho _ _ _ _ _ (by decide) h.c2))))))
  · exact ho _ _ _ _ _ (by decide) (ho _ _ _ _ _ (by decide) (ho _ _ _ _ _ (by decide) (hs _ _ _ _ (ho _ _ _ _ _ (by decide) (ho _ _ _ _ _ (by decide) (ho _ _ _ _ _ (by decide) h.c3))))))
  · exact ho _ _ _ _ _ (by decide) (ho _ _ _ _ _ (by decide) (hs _ _ _ _ (ho _ _ _ _ _ (by decide) (ho _ _ _ _ _ (by decide) (ho _ _ _ _ _ (by decide) (ho _ _ _ _ _ (by decide) h.c4))))))
  · exact ho _ _ _ _ _ (by decide) (hs _ _ _ _ (ho _ _ _ _ _ (by decide) (ho _ _ _ _ _ (by decide) (ho _ _ _ _ _ (by decide) (ho _ _ _ _ _ (by decide) (ho _ _ _ _ _ (by decide) h.c5))))))
  · exact hs _ _ _ _ (ho _ _ _ _ _ (by decide) (ho _ _ _ _ _ (by decide) (ho _ _ _ _ _ (by decide) (ho _ _ _ _ _ (by decide) (ho _ _ _ _ _ (by decide) (ho _ _ _ _ _ (by decide) h.c6))))))
theorem sign_all (xb : Nat) (neg : Bool) (L : List Nat) (v : Value) (ds : List Nat) (w : World) (lo : Nat) {w0 : World} (hv : nv L = dv ds) (hz : neg = true → dv ds ≠ 0) (hN : Nt w0 lo v L) (hB : Big w xb (decide (0 < L.length) && neg) v) :
    ∃ sg : Int, (if neg then ¬ 0 ≤ sg else 0 ≤ sg) ∧ ∀ W, Big W xb (decide (0 < L.length) && neg) v → Calls Tryz.prog 48 #[.pointer (some ⟨xb, 0, none⟩)] W fun e w' => e = .returned (.int .i64 sg) ∧ w' = W := by
  obtain ⟨A, c, rfl, _⟩ := hN.slice
  by_cases hl : 0 < L.length
  · refine ⟨if neg then -1 else 1, by cases neg <;> decide, fun W hW => ?_⟩
    have h := sign_some xb _ A L.length c W hW hl
    rw [show (decide (0 < L.length) && neg) = neg by simp [hl]] at h
    exact h
  · have hn : neg = false := by
      cases neg with
      | false => rfl
      | true =>
        refine absurd ?_ (hz rfl)
        rw [← hv]
        cases L with
        | nil => rfl
        | cons a L => simp at hl
    subst hn
    refine ⟨0, by decide, fun W hW => ?_⟩
    have h0 : L.length = 0 := by omega
    rw [h0] at hW
    exact sign_zero xb _ A c W hW

set_option maxRecDepth 100000 in
set_option maxHeartbeats 4000000 in
theorem scale_any (s t : ByteArray) (sc : Nat) (eb : Addr) (neg : Bool) (ds : List Nat) (hc : Clean s t sc) (hs : s.size ≤ 100) (hn : Numb t neg ds) (hz : neg = true → dv ds ≠ 0) (hb : dv ds < 256 ^ 16) (w : World) (he : w.cell? ⟨2, 0, none⟩ = some (eofV eb)) :
    Calls Tryz.prog 30 #[.string s, .int .u8 (sc : Int)] w fun e w' => ∃ x0 x1 x2 x3, e = .returned (.tuple #[.agg (decCells x0 x1 x2 x3 (!neg) 20 (sc : Int)), .nilIface]) ∧ (x0 < 4294967296 ∧ x1 < 4294967296 ∧ x2 < 4294967296 ∧ x3 < 4294967296) ∧ dn x0 x1 x2 x3 = dv ds ∧ Fresh w w' := by
  cases hc with
  | none h ht h0 =>
    have hN : ∀ W ib, W.cell? ⟨2, 0, none⟩ = some (eofV eb) → ib ≠ 2 → Big W ib false (.slice none 0 0) → _ := fun W ib h1 h2 h3 => setString_any ib eb t neg ds hn W h3 h1 h2
    have HN := Go.Lib.hid hN
    have HE := Go.Lib.hid he
    have HB := Go.Lib.hid hb
    have HZ := Go.Lib.hid hz
    clear hN hn he hb hz
    subst ht
    subst h0
    have H := Go.Lib.hid (fun W => lastIndex_any t 0 hs h W)
    clear h

    go_enter Tryz.func30, Tryz.ntmps30
    go_wp2_with (fail)
    refine (H.out _).mono ?_
    rintro e w1 ⟨rfl, hw⟩
    replace hw := hw.symm
    subst hw
    go_upto_region 12 with (fail)

    have hB := Big.new (w.alloc (.cells (decCells 0 0 0 0 false 0 0) 55)) 61
    have hD := (DeciF.new w 0 0 0 0 false 0 0 55).kept (Kept.refl _ (fun _ => False) |>.alloc (.cells #[.bool false, .slice none 0 0] 61)) (fun h => h)
    have hF : Fresh w ((w.alloc (.cells (decCells 0 0 0 0 false 0 0) 55)).alloc (.cells #[.bool false, .slice none 0 0] 61)) := ((Kept.refl w _).alloc _).alloc _
    rw [size_new w] at hB
    have hdr : Fresh ((w.alloc (.cells (decCells 0 0 0 0 false 0 0) 55)).alloc (.cells #[.bool false, .slice none 0 0] 61)) (((w.alloc (.cells (decCells 0 0 0 0 false 0 0) 55)).alloc (.cells #[.bool false, .slice none 0 0] 61))) := Kept.refl _ _
    replace hB := hB.kept hdr (fun h => h)
    replace hD := hD.kept hdr (fun h => h)
    replace hF := hF.trans hdr (fun _ _ h => h)
    clear hdr
    have h2 : 2 < w.heap.size := World.block_lt_of_cell? w _ HE.out
    obtain ⟨d, hd⟩ : ∃ d, w.heap.size = d := ⟨_, rfl⟩
    rw [hd] at hB hD h2 ⊢
    generalize (((w.alloc (.cells (decCells 0 0 0 0 false 0 0) 55)).alloc (.cells #[.bool false, .slice none 0 0] 61))) = W at *
    have HS := Go.Lib.hid (HN.out W (d + 1) (hF.held HE.out (fun h => h)) (by omega) hB)
    have HF := Go.Lib.hid hF
    have hdW : d + 1 < W.heap.size := hB.lt
    clear hB hF HN
    go_wp2_with (fail)
    refine HS.out.mono ?_
    rintro e w2 ⟨rfl, v, L, hNt, hVal, hBig, hK⟩
    replace hD := hD.kept hK (fun h => by omega)
    have HF2 := Go.Lib.hid (HF.out.trans hK (fun _ _ h => by omega))
    have HV := Go.Lib.hid (And.intro hNt (And.intro hVal hBig))
    have HD := Go.Lib.hid hD
    have hdW2 : d + 1 < w2.heap.size := hBig.lt
    clear HS HF hNt hVal hBig hK hD hdW
    go_wp2_with (fail)
    go_loopw [8] (fun s8 wr => s8 = .int .i64 0 ∧ wr = w2) (fun _ _ => 0)
    case atStart => exact ⟨rfl, rfl⟩
    case round =>
      obtain ⟨rfl, hw⟩ := hrel
      replace hw := hw.symm
      subst hw
      have HBY := Go.Lib.hid (intBytes_any (d + 1) _ v L W.heap.size w2 HV.out.2.2 HV.out.1 HV.out.2.1.2)
      go_wp2_with (fail)
      refine HBY.out.mono ?_
      rintro e w3 ⟨u, B, rfl, hBe, hF3, _⟩
      have h16 : B.length ≤ 16 := hBe.length_le (by rw [HV.out.2.1.1]; exact HB.out)
      obtain ⟨A, c, hub, hlc, _, hu0, hus⟩ := hBe.bts
      subst hub
      have HBe := Go.Lib.hid (And.intro hBe.val (And.intro hBe.lt (And.intro hu0 hus)))
      obtain ⟨n, hn⟩ : ∃ n, B.length = n := ⟨_, rfl⟩
      have HN := Go.Lib.hid hn
      rw [hn] at h16 hlc ⊢
      have i16 : (n : Int) ≤ 16 := by omega
      have HD3 := Go.Lib.hid (HD.out.kept hF3 (fun h => h))
      have HB3 := Go.Lib.hid (HV.out.2.2.kept hF3 (fun h => h))
      have HF3 := Go.Lib.hid (HF2.out.fresh hF3)
      have h3 := hF3.size
      clear hBe hu0 hus hn HBY hF3
      go_upto_region 27 with (fail)
      have hX := heap_new w3 (.cells (ints .u32 (ws (fun _ => 0))).toArray 53)
      have hF4 : Fresh w3 (w3.alloc (.cells (ints .u32 (ws (fun _ => 0))).toArray 53)) := (Kept.refl w3 _).alloc _
      rw [show w3.alloc (.cells #[.int .u32 0, .int .u32 0, .int .u32 0, .int .u32 0] 53) = w3.alloc (.cells (ints .u32 (ws (fun _ => 0))).toArray 53) from rfl]
      have hX3 : w3.heap.size < (w3.alloc (.cells (ints .u32 (ws (fun _ => 0))).toArray 53)).heap.size := by rw [size_new]; exact Nat.lt_succ_self _
      obtain ⟨X, hXe⟩ : ∃ X, w3.heap.size = X := ⟨_, rfl⟩
      rw [hXe] at hX hX3 h3 ⊢
      have hld : ∀ W, Fresh (w3.alloc (.cells (ints .u32 (ws (fun _ => 0))).toArray 53)) W → True := fun _ _ => trivial
      generalize w3.alloc (.cells (ints .u32 (ws (fun _ => 0))).toArray 53) = w4 at *
      have HXE := Go.Lib.hid hXe
      have HX := Go.Lib.hid hX
      have HF4 := Go.Lib.hid hF4
      clear hX hF4 hld hXe
      go_wp2_with (fail)
      go_loopw [79] (fun s79 wr => ∃ (i : Nat) (g : Nat → Nat), i ≤ n ∧ s79 = .int .i64 (i : Int) ∧ wr.heap[X]? = some (.cells (ints .u32 (ws g)).toArray 53 (0, 0)) ∧ (∀ j, g j < 256) ∧ (∀ j, j < n - i → g j = 0) ∧ dnw g = bev (B.take i) * 256 ^ (n - i) ∧ Kept w4 wr (fun k => k = X)) (fun s79 _ => n - (intOf s79).toNat)
      case atStart => exact ⟨0, fun _ => 0, Nat.zero_le _, rfl, HX.out, fun _ => Nat.succ_pos 255, fun _ _ => rfl, by simp [bev, dnw, wq, dn], Kept.refl _ _⟩
      case round =>
        obtain ⟨i, g, hi, rfl, hX, hg, hg0, hv, hK⟩ := hrel
        have HI := Go.Lib.hid (And.intro hX (And.intro hg (And.intro hg0 (And.intro hv hK))))
        clear hX hg hg0 hv hK
        by_cases hin : i < n
        · cases A with
          | none => 
            have h0 := HBe.out.2.2.1 rfl
            have h1 := HN.out
            rw [h0.1] at h1
            simp at h1
            omega
          | some ad =>
            obtain ⟨gB, o, rfl, hgl, hcl⟩ := HBe.out.2.2.2 _ rfl
            have hiB : i < B.length := by rw [HN.out]; exact hin
            have cB := HI.out.2.2.2.2.held (HF4.out.held (hcl i hiB) (fun h => h)) (fun e => by have h8 := HXE.out; have h9 := hgl; have h10 : gB = X := e; omega)
            obtain ⟨b, hb⟩ : ∃ b, B[i] = b := ⟨_, rfl⟩
            have hbl : b < 256 := by rw [← hb]; exact HBe.out.2.1 _ (List.getElem_mem hiB)
            have htk : B.take (i + 1) = B.take i ++ [b] := by rw [← hb]; exact List.take_succ_eq_append_getElem hiB
            rw [hb] at cB
            have HTK := Go.Lib.hid (And.intro htk hbl)
            have b1 : (0 : Int) ≤ (b : Int) := by omega
            have b2 : (b : Int) ≤ 255 := by omega
            have j1 : (i : Int) < (n : Int) := by omega
            have j2 : (0 : Int) ≤ (i : Int) := by omega
            clear hcl htk hb
            go_upto_region 31 with (fail)
            obtain ⟨q, rr, hr4, hpos⟩ : ∃ q rr, rr < 4 ∧ n - i - 1 = 4 * q + rr := ⟨(n - i - 1) / 4, (n - i - 1) % 4, Nat.mod_lt _ (by decide), by omega⟩
            have hq4 : q < 4 := by omega
            have e1 : (n : Int) - (i : Int) - 1 = 4 * (q : Int) + (rr : Int) := by omega
            rw [e1]
            have hcq : wr.cell? ⟨X, q, none⟩ = some (.int .u32 ((wq g q : Nat) : Int)) := by
              rw [cell_of_row _ _ _ _ _ _ HI.out.1]
              have h4 : q = 0 ∨ q = 1 ∨ q = 2 ∨ q = 3 := by omega
              rcases h4 with rfl | rfl | rfl | rfl <;> rfl
            have hfq := frozen_of_row _ _ q _ _ HI.out.1
            have hxl := wq_lt g HI.out.2.1 q
            obtain ⟨hw1, hw2, hw3⟩ := ws_upd g (4 * q + rr) b (by omega) (HI.out.2.2.1 _ (by omega))
            have hxl2 := wq_lt (upd g (4 * q + rr) b) (fun j => upd_lt g _ b HI.out.2.1 hbl j) q
            have q1 : (4 * q + rr) / 4 = q := by omega
            have q2 : (4 * q + rr) % 4 = rr := by omega
            rw [q1, q2] at hw1 hw3
            rw [hw3] at hxl2
            obtain ⟨x, hx⟩ : ∃ x, wq g q = x := ⟨_, rfl⟩
            rw [hx] at hcq hxl hxl2 hw1
            have HW := Go.Lib.hid (And.intro hw1 (And.intro hw2 hpos))
            have x1 : (0 : Int) ≤ (x : Int) := by omega
            have x2 : (x : Int) ≤ 4294967295 := by omega
            have q3 : (0 : Int) ≤ (q : Int) := by omega
            have q4 : (q : Int) ≤ 3 := by omega
            clear hw1 hw2 hw3 hx hpos e1 hxl
            have h4 : rr = 0 ∨ rr = 1 ∨ rr = 2 ∨ rr = 3 := by omega
            rcases h4 with rfl | rfl | rfl | rfl
            · rw [show ((0 : Nat) : Int) = 0 from rfl]
              have x3 : (x : Int) + (b : Int) ≤ 4294967295 := by omega
              clear hxl2
              go_wp2_with (fail)
              go_roundw
              case rel =>
                obtain ⟨m, hm⟩ : ∃ m, x + b * 256 ^ 0 = m := ⟨_, rfl⟩
                have hmi : (x : Int) + (b : Int) = (m : Int) := by rw [← hm]; omega
                obtain ⟨z1, z2, z3, z4⟩ := byte_in n i q 0 b x m g B hin HW.out.2.2 HTK.out.2 hm.symm HI.out.2.1 HI.out.2.2.1 HI.out.2.2.2.1 HW.out.1 HW.out.2.1 HTK.out.1
                refine ⟨i + 1, upd g (4 * q + 0) b, hin, rfl, ?_, z2, z3, z4, HI.out.2.2.2.2.setCell (p := ⟨X, q, none⟩) (.inl rfl) _⟩
                rw [hmi, z1]
                exact u32_stored HI.out.1 q m
              case measure => simp [intOf]; omega
            · rw [show ((1 : Nat) : Int) = 1 from rfl]
              have x3 : (x : Int) + (b : Int) * 256 ≤ 4294967295 := by omega
              clear hxl2
              go_wp2_with (fail)
              go_roundw
              case rel =>
                obtain ⟨m, hm⟩ : ∃ m, x + b * 256 ^ 1 = m := ⟨_, rfl⟩
                have hmi : (x : Int) + (b : Int) * 256 = (m : Int) := by rw [← hm]; omega
                obtain ⟨z1, z2, z3, z4⟩ := byte_in n i q 1 b x m g B hin HW.out.2.2 HTK.out.2 hm.symm HI.out.2.1 HI.out.2.2.1 HI.out.2.2.2.1 HW.out.1 HW.out.2.1 HTK.out.1
                refine ⟨i + 1, upd g (4 * q + 1) b, hin, rfl, ?_, z2, z3, z4, HI.out.2.2.2.2.setCell (p := ⟨X, q, none⟩) (.inl rfl) _⟩
                rw [hmi, z1]
                exact u32_stored HI.out.1 q m
              case measure => simp [intOf]; omega
            · rw [show ((2 : Nat) : Int) = 2 from rfl]
              have x3 : (x : Int) + (b : Int) * 65536 ≤ 4294967295 := by omega
              clear hxl2
              go_wp2_with (fail)
              go_roundw
              case rel =>
                obtain ⟨m, hm⟩ : ∃ m, x + b * 256 ^ 2 = m := ⟨_, rfl⟩
                have hmi : (x : Int) + (b : Int) * 65536 = (m : Int) := by rw [← hm]; omega
                obtain ⟨z1, z2, z3, z4⟩ := byte_in n i q 2 b x m g B hin HW.out.2.2 HTK.out.2 hm.symm HI.out.2.1 HI.out.2.2.1 HI.out.2.2.2.1 HW.out.1 HW.out.2.1 HTK.out.1
                refine ⟨i + 1, upd g (4 * q + 2) b, hin, rfl, ?_, z2, z3, z4, HI.out.2.2.2.2.setCell (p := ⟨X, q, none⟩) (.inl rfl) _⟩
                rw [hmi, z1]
                exact u32_stored HI.out.1 q m
              case measure => simp [intOf]; omega
            · rw [show ((3 : Nat) : Int) = 3 from rfl]
              have x3 : (x : Int) + (b : Int) * 16777216 ≤ 4294967295 := by omega
              clear hxl2
              go_wp2_with (fail)
              go_roundw
              case rel =>
                obtain ⟨m, hm⟩ : ∃ m, x + b * 256 ^ 3 = m := ⟨_, rfl⟩
                have hmi : (x : Int) + (b : Int) * 16777216 = (m : Int) := by rw [← hm]; omega
                obtain ⟨z1, z2, z3, z4⟩ := byte_in n i q 3 b x m g B hin HW.out.2.2 HTK.out.2 hm.symm HI.out.2.1 HI.out.2.2.1 HI.out.2.2.2.1 HW.out.1 HW.out.2.1 HTK.out.1
                refine ⟨i + 1, upd g (4 * q + 3) b, hin, rfl, ?_, z2, z3, z4, HI.out.2.2.2.2.setCell (p := ⟨X, q, none⟩) (.inl rfl) _⟩
                rw [hmi, z1]
                exact u32_stored HI.out.1 q m
              case measure => simp [intOf]; omega
        · have hie : i = n := by omega
          subst hie
          have hval : dnw g = dv ds := by
            rw [HI.out.2.2.2.1, Nat.sub_self, Nat.pow_zero, Nat.mul_one, ← HN.out, List.take_length, HBe.out.1, HV.out.2.1.1]
          have hDr := (HD3.out.kept HF4.out (fun h => h)).kept HI.out.2.2.2.2 (fun e => by omega)
          have hBr := (HB3.out.kept HF4.out (fun h => h)).kept HI.out.2.2.2.2 (fun e => by omega)
          have hFr : Fresh w wr := (HF3.out.fresh HF4.out).trans HI.out.2.2.2.2 (fun k hk e => by have := HF3.out.size; have h9 := HXE.out; omega)
          obtain ⟨sg, hsg, hcall⟩ := sign_all (d + 1) neg L v ds wr _ HV.out.2.1.1 HZ.out HV.out.1 hBr
          have x0 := cell_of_row _ _ 0 _ _ _ HI.out.1
          have x1 := cell_of_row _ _ 1 _ _ _ HI.out.1
          have x2 := cell_of_row _ _ 2 _ _ _ HI.out.1
          have x3 := cell_of_row _ _ 3 _ _ _ HI.out.1
          obtain ⟨z0, hz0⟩ : ∃ z, wq g 0 = z := ⟨_, rfl⟩
          obtain ⟨z1, hz1⟩ : ∃ z, wq g 1 = z := ⟨_, rfl⟩
          obtain ⟨z2, hz2⟩ : ∃ z, wq g 2 = z := ⟨_, rfl⟩
          obtain ⟨z3, hz3⟩ : ∃ z, wq g 3 = z := ⟨_, rfl⟩
          replace x0 : wr.cell? ⟨X, 0, none⟩ = some (.int .u32 (z0 : Int)) := by rw [x0, ← hz0]; rfl
          replace x1 : wr.cell? ⟨X, 1, none⟩ = some (.int .u32 (z1 : Int)) := by rw [x1, ← hz1]; rfl
          replace x2 : wr.cell? ⟨X, 2, none⟩ = some (.int .u32 (z2 : Int)) := by rw [x2, ← hz2]; rfl
          replace x3 : wr.cell? ⟨X, 3, none⟩ = some (.int .u32 (z3 : Int)) := by rw [x3, ← hz3]; rfl
          have hzl : z0 < 4294967296 ∧ z1 < 4294967296 ∧ z2 < 4294967296 ∧ z3 < 4294967296 := ⟨hz0 ▸ wq_lt g HI.out.2.1 0, hz1 ▸ wq_lt g HI.out.2.1 1, hz2 ▸ wq_lt g HI.out.2.1 2, hz3 ▸ wq_lt g HI.out.2.1 3⟩
          have hdn : dn z0 z1 z2 z3 = dv ds := by rw [← hval, ← hz0, ← hz1, ← hz2, ← hz3]; rfl
          have HE1 := Go.Lib.hid (And.intro hzl (And.intro hdn (And.intro hFr hDr)))
          have HC := Go.Lib.hid hcall
          have c0 := hDr.v.c0
          have c1 := hDr.v.c1
          have c2 := hDr.v.c2
          have c3 := hDr.v.c3
          have c4 := hDr.v.c4
          have c5 := hDr.v.c5
          have c6 := hDr.v.c6
          have f0 := hDr.f 0
          have f1 := hDr.f 1
          have f2 := hDr.f 2
          have f3 := hDr.f 3
          have f4 := hDr.f 4
          have f5 := hDr.f 5
          have f6 := hDr.f 6
          clear hzl hdn hFr hDr hcall hval hz0 hz1 hz2 hz3
          have HBR := Go.Lib.hid (hBr.kept ((Kept.refl wr (fun _ => False)).drew) (fun h => h))
          clear hBr
          cases neg with
          | true =>
            have hs0 : decide ((0 : Int) ≤ sg) = false := by simpa using hsg
            go_upto_region 33 with (fail)
            go_still_tail 6, (by kernel_rfl)
            still_call (HC.out wr.drew HBR.out)
            repeat still_step
            refine wpStill_nil ?_
            go_wp2_with (fail)
            have hK9 : Kept wr _ (fun k => k = d) := ((((((((Kept.refl wr (fun k => k = d)).setCell (p := ⟨d, 0, none⟩) (.inl rfl) (.int .u32 (z0 : Int))).setCell (p := ⟨d, 1, none⟩) (.inl rfl) (.int .u32 (z1 : Int))).setCell (p := ⟨d, 2, none⟩) (.inl rfl) (.int .u32 (z2 : Int))).setCell (p := ⟨d, 3, none⟩) (.inl rfl) (.int .u32 (z3 : Int))).setCell (p := ⟨d, 4, none⟩) (.inl rfl) (.bool false)).setCell (p := ⟨d, 5, none⟩) (.inl rfl) (.int .u8 20)).setCell (p := ⟨d, 6, none⟩) (.inl rfl) (.int .u8 0)).drew
            have hP := (Deci.put HE1.out.2.2.2.v z0 z1 z2 z3 false 20 0).kept ((Kept.refl _ (fun _ => False)).drew) (fun h => h)
            have HP := Go.Lib.hid (And.intro hK9 hP)
            have p0 := hP.c0
            have p1 := hP.c1
            have p2 := hP.c2
            have p3 := hP.c3
            have p4 := hP.c4
            have p5 := hP.c5
            have p6 := hP.c6
            clear hK9 hP c0 c1 c2 c3 c4 c5 c6 f0 f1 f2 f3 f4 f5 f6
            generalize (((((((wr.setCell ⟨d, 0, none⟩ (.int .u32 (z0 : Int))).setCell ⟨d, 1, none⟩ (.int .u32 (z1 : Int))).setCell ⟨d, 2, none⟩ (.int .u32 (z2 : Int))).setCell ⟨d, 3, none⟩ (.int .u32 (z3 : Int))).setCell ⟨d, 4, none⟩ (.bool false)).setCell ⟨d, 5, none⟩ (.int .u8 20)).setCell ⟨d, 6, none⟩ (.int .u8 0)).drew = wz at *
            exact bodyPost_ret (v := .tuple #[.agg (decCells z0 z1 z2 z3 false 20 0), .nilIface]) (by simp [results, Tryz.results30, go_sem, p0, p1, p2, p3, p4, p5, p6]) rfl ⟨z0, z1, z2, z3, rfl, HE1.out.1, HE1.out.2.1, HE1.out.2.2.1.trans HP.out.1 (fun k hk e => by omega)⟩
          | false =>
            have hs0 : decide ((0 : Int) ≤ sg) = true := by simpa using hsg
            go_upto_region 33 with (fail)
            go_still_tail 6, (by kernel_rfl)
            still_call (HC.out wr.drew HBR.out)
            repeat still_step
            refine wpStill_nil ?_
            go_wp2_with (fail)
            have hK9 : Kept wr _ (fun k => k = d) := ((((((((Kept.refl wr (fun k => k = d)).setCell (p := ⟨d, 0, none⟩) (.inl rfl) (.int .u32 (z0 : Int))).setCell (p := ⟨d, 1, none⟩) (.inl rfl) (.int .u32 (z1 : Int))).setCell (p := ⟨d, 2, none⟩) (.inl rfl) (.int .u32 (z2 : Int))).setCell (p := ⟨d, 3, none⟩) (.inl rfl) (.int .u32 (z3 : Int))).setCell (p := ⟨d, 4, none⟩) (.inl rfl) (.bool true)).setCell (p := ⟨d, 5, none⟩) (.inl rfl) (.int .u8 20)).setCell (p := ⟨d, 6, none⟩) (.inl rfl) (.int .u8 0)).drew
            have hP := (Deci.put HE1.out.2.2.2.v z0 z1 z2 z3 true 20 0).kept ((Kept.refl _ (fun _ => False)).drew) (fun h => h)
            have HP := Go.Lib.hid (And.intro hK9 hP)
            have p0 := hP.c0
            have p1 := hP.c1
            have p2 := hP.c2
            have p3 := hP.c3
            have p4 := hP.c4
            have p5 := hP.c5
            have p6 := hP.c6
            clear hK9 hP c0 c1 c2 c3 c4 c5 c6 f0 f1 f2 f3 f4 f5 f6
            generalize (((((((wr.setCell ⟨d, 0, none⟩ (.int .u32 (z0 : Int))).setCell ⟨d, 1, none⟩ (.int .u32 (z1 : Int))).setCell ⟨d, 2, none⟩ (.int .u32 (z2 : Int))).setCell ⟨d, 3, none⟩ (.int .u32 (z3 : Int))).setCell ⟨d, 4, none⟩ (.bool true)).setCell ⟨d, 5, none⟩ (.int .u8 20)).setCell ⟨d, 6, none⟩ (.int .u8 0)).drew = wz at *
            exact bodyPost_ret (v := .tuple #[.agg (decCells z0 z1 z2 z3 true 20 0), .nilIface]) (by simp [results, Tryz.results30, go_sem, p0, p1, p2, p3, p4, p5, p6]) rfl ⟨z0, z1, z2, z3, rfl, HE1.out.1, HE1.out.2.1, HE1.out.2.2.1.trans HP.out.1 (fun k hk e => by omega)⟩
  | some p h ht h0 =>
    have hN : ∀ W ib, W.cell? ⟨2, 0, none⟩ = some (eofV eb) → ib ≠ 2 → Big W ib false (.slice none 0 0) → _ := fun W ib h1 h2 h3 => setString_any ib eb t neg ds hn W h3 h1 h2
    have HN := Go.Lib.hid hN
    have HE := Go.Lib.hid he
    have HB := Go.Lib.hid hb
    have HZ := Go.Lib.hid hz
    clear hN hn he hb hz
    have H := Go.Lib.hid (fun W => lastIndex_any s (p + 1) hs h W)
    have i1 : (0 : Int) ≤ (p : Int) := by omega
    have i2 : (p : Int) + 1 ≤ (s.size : Int) := by omega
    have i3 : (s.size : Int) ≤ 100 := by omega
    have i4 : (sc : Int) ≤ 100 := by omega
    have e3 : (s.size : Int) - (p : Int) - 1 = (sc : Int) := by omega
    have e2 : (((p + 1 : Nat) : Int) - 1) = (p : Int) := by omega
    rw [e2] at H
    have e4 : ((p : Int) == -1) = false := by simp
    have HT := Go.Lib.hid ht
    clear h ht h0
    go_enter Tryz.func30, Tryz.ntmps30
    go_wp2_with (fail)
    refine (H.out _).mono ?_
    rintro e w1 ⟨rfl, hw⟩
    replace hw := hw.symm
    subst hw
    go_upto_region 9 with (fail)

    go_quiet (fail)
    go_upto_region 12 with (fail)
    rw [← HT.out]
    have hB := Big.new (w.alloc (.cells (decCells 0 0 0 0 false 0 0) 55)) 61
    have hD := (DeciF.new w 0 0 0 0 false 0 0 55).kept (Kept.refl _ (fun _ => False) |>.alloc (.cells #[.bool false, .slice none 0 0] 61)) (fun h => h)
    have hF : Fresh w ((w.alloc (.cells (decCells 0 0 0 0 false 0 0) 55)).alloc (.cells #[.bool false, .slice none 0 0] 61)) := ((Kept.refl w _).alloc _).alloc _
    rw [size_new w] at hB
    have hdr : Fresh ((w.alloc (.cells (decCells 0 0 0 0 false 0 0) 55)).alloc (.cells #[.bool false, .slice none 0 0] 61)) (((w.alloc (.cells (decCells 0 0 0 0 false 0 0) 55)).alloc (.cells #[.bool false, .slice none 0 0] 61)).drewN nq) := (Kept.refl _ _).drewN nq
    replace hB := hB.kept hdr (fun h => h)
    replace hD := hD.kept hdr (fun h => h)
    replace hF := hF.trans hdr (fun _ _ h => h)
    clear hdr
    have h2 : 2 < w.heap.size := World.block_lt_of_cell? w _ HE.out
    obtain ⟨d, hd⟩ : ∃ d, w.heap.size = d := ⟨_, rfl⟩
    rw [hd] at hB hD h2 ⊢
    generalize (((w.alloc (.cells (decCells 0 0 0 0 false 0 0) 55)).alloc (.cells #[.bool false, .slice none 0 0] 61)).drewN nq) = W at *
    have HS := Go.Lib.hid (HN.out W (d + 1) (hF.held HE.out (fun h => h)) (by omega) hB)
    have HF := Go.Lib.hid hF
    have hdW : d + 1 < W.heap.size := hB.lt
    clear hB hF HN
    go_wp2_with (fail)
    refine HS.out.mono ?_
    rintro e w2 ⟨rfl, v, L, hNt, hVal, hBig, hK⟩
    replace hD := hD.kept hK (fun h => by omega)
    have HF2 := Go.Lib.hid (HF.out.trans hK (fun _ _ h => by omega))
    have HV := Go.Lib.hid (And.intro hNt (And.intro hVal hBig))
    have HD := Go.Lib.hid hD
    have hdW2 : d + 1 < w2.heap.size := hBig.lt
    clear HS HF hNt hVal hBig hK hD hdW
    go_wp2_with (fail)
    go_loopw [8] (fun s8 wr => s8 = .int .i64 (sc : Int) ∧ wr = w2) (fun _ _ => 0)
    case atStart => exact ⟨rfl, rfl⟩
    case round =>
      obtain ⟨rfl, hw⟩ := hrel
      replace hw := hw.symm
      subst hw
      have HBY := Go.Lib.hid (intBytes_any (d + 1) _ v L W.heap.size w2 HV.out.2.2 HV.out.1 HV.out.2.1.2)
      go_wp2_with (fail)
      refine HBY.out.mono ?_
      rintro e w3 ⟨u, B, rfl, hBe, hF3, _⟩
      have h16 : B.length ≤ 16 := hBe.length_le (by rw [HV.out.2.1.1]; exact HB.out)
      obtain ⟨A, c, hub, hlc, _, hu0, hus⟩ := hBe.bts
      subst hub
      have HBe := Go.Lib.hid (And.intro hBe.val (And.intro hBe.lt (And.intro hu0 hus)))
      obtain ⟨n, hn⟩ : ∃ n, B.length = n := ⟨_, rfl⟩
      have HN := Go.Lib.hid hn
      rw [hn] at h16 hlc ⊢
      have i16 : (n : Int) ≤ 16 := by omega
      have HD3 := Go.Lib.hid (HD.out.kept hF3 (fun h => h))
      have HB3 := Go.Lib.hid (HV.out.2.2.kept hF3 (fun h => h))
      have HF3 := Go.Lib.hid (HF2.out.fresh hF3)
      have h3 := hF3.size
      clear hBe hu0 hus hn HBY hF3
      go_upto_region 27 with (fail)
      have hX := heap_new w3 (.cells (ints .u32 (ws (fun _ => 0))).toArray 53)
      have hF4 : Fresh w3 (w3.alloc (.cells (ints .u32 (ws (fun _ => 0))).toArray 53)) := (Kept.refl w3 _).alloc _
      rw [show w3.alloc (.cells #[.int .u32 0, .int .u32 0, .int .u32 0, .int .u32 0] 53) = w3.alloc (.cells (ints .u32 (ws (fun _ => 0))).toArray 53) from rfl]
      have hX3 : w3.heap.size < (w3.alloc (.cells (ints .u32 (ws (fun _ => 0))).toArray 53)).heap.size := by rw [size_new]; exact Nat.lt_succ_self _
      obtain ⟨X, hXe⟩ : ∃ X, w3.heap.size = X := ⟨_, rfl⟩
      rw [hXe] at hX hX3 h3 ⊢
      have hld : ∀ W, Fresh (w3.alloc (.cells (ints .u32 (ws (fun _ => 0))).toArray 53)) W → True := fun _ _ => trivial
      generalize w3.alloc (.cells (ints .u32 (ws (fun _ => 0))).toArray 53) = w4 at *
      have HXE := Go.Lib.hid hXe
      have HX := Go.Lib.hid hX
      have HF4 := Go.Lib.hid hF4
      clear hX hF4 hld hXe
      go_wp2_with (fail)
      go_loopw [79] (fun s79 wr => ∃ (i : Nat) (g : Nat → Nat), i ≤ n ∧ s79 = .int .i64 (i : Int) ∧ wr.heap[X]? = some (.cells (ints .u32 (ws g)).toArray 53 (0, 0)) ∧ (∀ j, g j < 256) ∧ (∀ j, j < n - i → g j = 0) ∧ dnw g = bev (B.take i) * 256 ^ (n - i) ∧ Kept w4 wr (fun k => k = X)) (fun s79 _ => n - (intOf s79).toNat)
      case atStart => exact ⟨0, fun _ => 0, Nat.zero_le _, rfl, HX.out, fun _ => Nat.succ_pos 255, fun _ _ => rfl, by simp [bev, dnw, wq, dn], Kept.refl _ _⟩
      case round =>
        obtain ⟨i, g, hi, rfl, hX, hg, hg0, hv, hK⟩ := hrel
        have HI := Go.Lib.hid (And.intro hX (And.intro hg (And.intro hg0 (And.intro hv hK))))
        clear hX hg hg0 hv hK
        by_cases hin : i < n
        · cases A with
          | none => 
            have h0 := HBe.out.2.2.1 rfl
            have h1 := HN.out
            rw [h0.1] at h1
            simp at h1
            omega
          | some ad =>
            obtain ⟨gB, o, rfl, hgl, hcl⟩ := HBe.out.2.2.2 _ rfl
            have hiB : i < B.length := by rw [HN.out]; exact hin
            have cB := HI.out.2.2.2.2.held (HF4.out.held (hcl i hiB) (fun h => h)) (fun e => by have h8 := HXE.out; have h9 := hgl; have h10 : gB = X := e; omega)
            obtain ⟨b, hb⟩ : ∃ b, B[i] = b := ⟨_, rfl⟩
            have hbl : b < 256 := by rw [← hb]; exact HBe.out.2.1 _ (List.getElem_mem hiB)
            have htk : B.take (i + 1) = B.take i ++ [b] := by rw [← hb]; exact List.take_succ_eq_append_getElem hiB
            rw [hb] at cB
            have HTK := Go.Lib.hid (And.intro htk hbl)
            have b1 : (0 : Int) ≤ (b : Int) := by omega
            have b2 : (b : Int) ≤ 255 := by omega
            have j1 : (i : Int) < (n : Int) := by omega
            have j2 : (0 : Int) ≤ (i : Int) := by omega
            clear hcl htk hb
            go_upto_region 31 with (fail)
            obtain ⟨q, rr, hr4, hpos⟩ : ∃ q rr, rr < 4 ∧ n - i - 1 = 4 * q + rr := ⟨(n - i - 1) / 4, (n - i - 1) % 4, Nat.mod_lt _ (by decide), by omega⟩
            have hq4 : q < 4 := by omega
            have e1 : (n : Int) - (i : Int) - 1 = 4 * (q : Int) + (rr : Int) := by omega
            rw [e1]
            have hcq : wr.cell? ⟨X, q, none⟩ = some (.int .u32 ((wq g q : Nat) : Int)) := by
              rw [cell_of_row _ _ _ _ _ _ HI.out.1]
              have h4 : q = 0 ∨ q = 1 ∨ q = 2 ∨ q = 3 := by omega
              rcases h4 with rfl | rfl | rfl | rfl <;> rfl
            have hfq := frozen_of_row _ _ q _ _ HI.out.1
            have hxl := wq_lt g HI.out.2.1 q
            obtain ⟨hw1, hw2, hw3⟩ := ws_upd g (4 * q + rr) b (by omega) (HI.out.2.2.1 _ (by omega))
            have hxl2 := wq_lt (upd g (4 * q + rr) b) (fun j => upd_lt g _ b HI.out.2.1 hbl j) q
            have q1 : (4 * q + rr) / 4 = q := by omega
            have q2 : (4 * q + rr) % 4 = rr := by omega
            rw [q1, q2] at hw1 hw3
            rw [hw3] at hxl2
            obtain ⟨x, hx⟩ : ∃ x, wq g q = x := ⟨_, rfl⟩
            rw [hx] at hcq hxl hxl2 hw1
            have HW := Go.Lib.hid (And.intro hw1 (And.intro hw2 hpos))
            have x1 : (0 : Int) ≤ (x : Int) := by omega
            have x2 : (x : Int) ≤ 4294967295 := by omega
            have q3 : (0 : Int) ≤ (q : Int) := by omega
            have q4 : (q : Int) ≤ 3 := by omega
            clear hw1 hw2 hw3 hx hpos e1 hxl
            have h4 : rr = 0 ∨ rr = 1 ∨ rr = 2 ∨ rr = 3 := by omega
            rcases h4 with rfl | rfl | rfl | rfl
            · rw [show ((0 : Nat) : Int) = 0 from rfl]
              have x3 : (x : Int) + (b : Int) ≤ 4294967295 := by omega
              clear hxl2
              go_wp2_with (fail)
              go_roundw
              case rel =>
                obtain ⟨m, hm⟩ : ∃ m, x + b * 256 ^ 0 = m := ⟨_, rfl⟩
                have hmi : (x : Int) + (b : Int) = (m : Int) := by rw [← hm]; omega
                obtain ⟨z1, z2, z3, z4⟩ := byte_in n i q 0 b x m g B hin HW.out.2.2 HTK.out.2 hm.symm HI.out.2.1 HI.out.2.2.1 HI.out.2.2.2.1 HW.out.1 HW.out.2.1 HTK.out.1
                refine ⟨i + 1, upd g (4 * q + 0) b, hin, rfl, ?_, z2, z3, z4, HI.out.2.2.2.2.setCell (p := ⟨X, q, none⟩) (.inl rfl) _⟩
                rw [hmi, z1]
                exact u32_stored HI.out.1 q m
              case measure => simp [intOf]; omega
            · rw [show ((1 : Nat) : Int) = 1 from rfl]
              have x3 : (x : Int) + (b : Int) * 256 ≤ 4294967295 := by omega
              clear hxl2
              go_wp2_with (fail)
              go_roundw
              case rel =>
                obtain ⟨m, hm⟩ : ∃ m, x + b * 256 ^ 1 = m := ⟨_, rfl⟩
                have hmi : (x : Int) + (b : Int) * 256 = (m : Int) := by rw [← hm]; omega
                obtain ⟨z1, z2, z3, z4⟩ := byte_in n i q 1 b x m g B hin HW.out.2.2 HTK.out.2 hm.symm HI.out.2.1 HI.out.2.2.1 HI.out.2.2.2.1 HW.out.1 HW.out.2.1 HTK.out.1
                refine ⟨i + 1, upd g (4 * q + 1) b, hin, rfl, ?_, z2, z3, z4, HI.out.2.2.2.2.setCell (p := ⟨X, q, none⟩) (.inl rfl) _⟩
                rw [hmi, z1]
                exact u32_stored HI.out.1 q m
              case measure => simp [intOf]; omega
            · rw [show ((2 : Nat) : Int) = 2 from rfl]
              have x3 : (x : Int) + (b : Int) * 65536 ≤ 4294967295 := by omega
              clear hxl2
              go_wp2_with (fail)
              go_roundw
              case rel =>
                obtain ⟨m, hm⟩ : ∃ m, x + b * 256 ^ 2 = m := ⟨_, rfl⟩
                have hmi : (x : Int) + (b : Int) * 65536 = (m : Int) := by rw [← hm]; omega
                obtain ⟨z1, z2, z3, z4⟩ := byte_in n i q 2 b x m g B hin HW.out.2.2 HTK.out.2 hm.symm HI.out.2.1 HI.out.2.2.1 HI.out.2.2.2.1 HW.out.1 HW.out.2.1 HTK.out.1
                refine ⟨i + 1, upd g (4 * q + 2) b, hin, rfl, ?_, z2, z3, z4, HI.out.2.2.2.2.setCell (p := ⟨X, q, none⟩) (.inl rfl) _⟩
                rw [hmi, z1]
                exact u32_stored HI.out.1 q m
              case measure => simp [intOf]; omega
            · rw [show ((3 : Nat) : Int) = 3 from rfl]
              have x3 : (x : Int) + (b : Int) * 16777216 ≤ 4294967295 := by omega
              clear hxl2
              go_wp2_with (fail)
              go_roundw
              case rel =>
                obtain ⟨m, hm⟩ : ∃ m, x + b * 256 ^ 3 = m := ⟨_, rfl⟩
                have hmi : (x : Int) + (b : Int) * 16777216 = (m : Int) := by rw [← hm]; omega
                obtain ⟨z1, z2, z3, z4⟩ := byte_in n i q 3 b x m g B hin HW.out.2.2 HTK.out.2 hm.symm HI.out.2.1 HI.out.2.2.1 HI.out.2.2.2.1 HW.out.1 HW.out.2.1 HTK.out.1
                refine ⟨i + 1, upd g (4 * q + 3) b, hin, rfl, ?_, z2, z3, z4, HI.out.2.2.2.2.setCell (p := ⟨X, q, none⟩) (.inl rfl) _⟩
                rw [hmi, z1]
                exact u32_stored HI.out.1 q m
              case measure => simp [intOf]; omega
        · have hie : i = n := by omega
          subst hie
          have hval : dnw g = dv ds := by
            rw [HI.out.2.2.2.1, Nat.sub_self, Nat.pow_zero, Nat.mul_one, ← HN.out, List.take_length, HBe.out.1, HV.out.2.1.1]
          have hDr := (HD3.out.kept HF4.out (fun h => h)).kept HI.out.2.2.2.2 (fun e => by omega)
          have hBr := (HB3.out.kept HF4.out (fun h => h)).kept HI.out.2.2.2.2 (fun e => by omega)
          have hFr : Fresh w wr := (HF3.out.fresh HF4.out).trans HI.out.2.2.2.2 (fun k hk e => by have := HF3.out.size; have h9 := HXE.out; omega)
          obtain ⟨sg, hsg, hcall⟩ := sign_all (d + 1) neg L v ds wr _ HV.out.2.1.1 HZ.out HV.out.1 hBr
          have x0 := cell_of_row _ _ 0 _ _ _ HI.out.1
          have x1 := cell_of_row _ _ 1 _ _ _ HI.out.1
          have x2 := cell_of_row _ _ 2 _ _ _ HI.out.1
          have x3 := cell_of_row _ _ 3 _ _ _ HI.out.1
          obtain ⟨z0, hz0⟩ : ∃ z, wq g 0 = z := ⟨_, rfl⟩
          obtain ⟨z1, hz1⟩ : ∃ z, wq g 1 = z := ⟨_, rfl⟩
          obtain ⟨z2, hz2⟩ : ∃ z, wq g 2 = z := ⟨_, rfl⟩
          obtain ⟨z3, hz3⟩ : ∃ z, wq g 3 = z := ⟨_, rfl⟩
          replace x0 : wr.cell? ⟨X, 0, none⟩ = some (.int .u32 (z0 : Int)) := by rw [x0, ← hz0]; rfl
          replace x1 : wr.cell? ⟨X, 1, none⟩ = some (.int .u32 (z1 : Int)) := by rw [x1, ← hz1]; rfl
          replace x2 : wr.cell? ⟨X, 2, none⟩ = some (.int .u32 (z2 : Int)) := by rw [x2, ← hz2]; rfl
          replace x3 : wr.cell? ⟨X, 3, none⟩ = some (.int .u32 (z3 : Int)) := by rw [x3, ← hz3]; rfl
          have hzl : z0 < 4294967296 ∧ z1 < 4294967296 ∧ z2 < 4294967296 ∧ z3 < 4294967296 := ⟨hz0 ▸ wq_lt g HI.out.2.1 0, hz1 ▸ wq_lt g HI.out.2.1 1, hz2 ▸ wq_lt g HI.out.2.1 2, hz3 ▸ wq_lt g HI.out.2.1 3⟩
          have hdn : dn z0 z1 z2 z3 = dv ds := by rw [← hval, ← hz0, ← hz1, ← hz2, ← hz3]; rfl
          have HE1 := Go.Lib.hid (And.intro hzl (And.intro hdn (And.intro hFr hDr)))
          have HC := Go.Lib.hid hcall
          have c0 := hDr.v.c0
          have c1 := hDr.v.c1
          have c2 := hDr.v.c2
          have c3 := hDr.v.c3
          have c4 := hDr.v.c4
          have c5 := hDr.v.c5
          have c6 := hDr.v.c6
          have f0 := hDr.f 0
          have f1 := hDr.f 1
          have f2 := hDr.f 2
          have f3 := hDr.f 3
          have f4 := hDr.f 4
          have f5 := hDr.f 5
          have f6 := hDr.f 6
          clear hzl hdn hFr hDr hcall hval hz0 hz1 hz2 hz3
          have HBR := Go.Lib.hid (hBr.kept ((Kept.refl wr (fun _ => False)).drew) (fun h => h))
          clear hBr
          cases neg with
          | true =>
            have hs0 : decide ((0 : Int) ≤ sg) = false := by simpa using hsg
            go_upto_region 33 with (fail)
            go_still_tail 6, (by kernel_rfl)
            still_call (HC.out wr.drew HBR.out)
            repeat still_step
            refine wpStill_nil ?_
            go_wp2_with (fail)
            have hK9 : Kept wr _ (fun k => k = d) := ((((((((Kept.refl wr (fun k => k = d)).setCell (p := ⟨d, 0, none⟩) (.inl rfl) (.int .u32 (z0 : Int))).setCell (p := ⟨d, 1, none⟩) (.inl rfl) (.int .u32 (z1 : Int))).setCell (p := ⟨d, 2, none⟩) (.inl rfl) (.int .u32 (z2 : Int))).setCell (p := ⟨d, 3, none⟩) (.inl rfl) (.int .u32 (z3 : Int))).setCell (p := ⟨d, 4, none⟩) (.inl rfl) (.bool false)).setCell (p := ⟨d, 5, none⟩) (.inl rfl) (.int .u8 20)).setCell (p := ⟨d, 6, none⟩) (.inl rfl) (.int .u8 (sc : Int))).drew
            have hP := (Deci.put HE1.out.2.2.2.v z0 z1 z2 z3 false 20 (sc : Int)).kept ((Kept.refl _ (fun _ => False)).drew) (fun h => h)
            have HP := Go.Lib.hid (And.intro hK9 hP)
            have p0 := hP.c0
            have p1 := hP.c1
            have p2 := hP.c2
            have p3 := hP.c3
            have p4 := hP.c4
            have p5 := hP.c5
            have p6 := hP.c6
            clear hK9 hP c0 c1 c2 c3 c4 c5 c6 f0 f1 f2 f3 f4 f5 f6
            generalize (((((((wr.setCell ⟨d, 0, none⟩ (.int .u32 (z0 : Int))).setCell ⟨d, 1, none⟩ (.int .u32 (z1 : Int))).setCell ⟨d, 2, none⟩ (.int .u32 (z2 : Int))).setCell ⟨d, 3, none⟩ (.int .u32 (z3 : Int))).setCell ⟨d, 4, none⟩ (.bool false)).setCell ⟨d, 5, none⟩ (.int .u8 20)).setCell ⟨d, 6, none⟩ (.int .u8 (sc : Int))).drew = wz at *
            exact bodyPost_ret (v := .tuple #[.agg (decCells z0 z1 z2 z3 false 20 (sc : Int)), .nilIface]) (by simp [results, Tryz.results30, go_sem, p0, p1, p2, p3, p4, p5, p6]) rfl ⟨z0, z1, z2, z3, rfl, HE1.out.1, HE1.out.2.1, HE1.out.2.2.1.trans HP.out.1 (fun k hk e => by omega)⟩
          | false =>
            have hs0 : decide ((0 : Int) ≤ sg) = true := by simpa using hsg
            go_upto_region 33 with (fail)
            go_still_tail 6, (by kernel_rfl)
            still_call (HC.out wr.drew HBR.out)
            repeat still_step
            refine wpStill_nil ?_
            go_wp2_with (fail)
            have hK9 : Kept wr _ (fun k => k = d) := ((((((((Kept.refl wr (fun k => k = d)).setCell (p := ⟨d, 0, none⟩) (.inl rfl) (.int .u32 (z0 : Int))).setCell (p := ⟨d, 1, none⟩) (.inl rfl) (.int .u32 (z1 : Int))).setCell (p := ⟨d, 2, none⟩) (.inl rfl) (.int .u32 (z2 : Int))).setCell (p := ⟨d, 3, none⟩) (.inl rfl) (.int .u32 (z3 : Int))).setCell (p := ⟨d, 4, none⟩) (.inl rfl) (.bool true)).setCell (p := ⟨d, 5, none⟩) (.inl rfl) (.int .u8 20)).setCell (p := ⟨d, 6, none⟩) (.inl rfl) (.int .u8 (sc : Int))).drew
            have hP := (Deci.put HE1.out.2.2.2.v z0 z1 z2 z3 true 20 (sc : Int)).kept ((Kept.refl _ (fun _ => False)).drew) (fun h => h)
            have HP := Go.Lib.hid (And.intro hK9 hP)
            have p0 := hP.c0
            have p1 := hP.c1
            have p2 := hP.c2
            have p3 := hP.c3
            have p4 := hP.c4
            have p5 := hP.c5
            have p6 := hP.c6
            clear hK9 hP c0 c1 c2 c3 c4 c5 c6 f0 f1 f2 f3 f4 f5 f6
            generalize (((((((wr.setCell ⟨d, 0, none⟩ (.int .u32 (z0 : Int))).setCell ⟨d, 1, none⟩ (.int .u32 (z1 : Int))).setCell ⟨d, 2, none⟩ (.int .u32 (z2 : Int))).setCell ⟨d, 3, none⟩ (.int .u32 (z3 : Int))).setCell ⟨d, 4, none⟩ (.bool true)).setCell ⟨d, 5, none⟩ (.int .u8 20)).setCell ⟨d, 6, none⟩ (.int .u8 (sc : Int))).drew = wz at *
            exact bodyPost_ret (v := .tuple #[.agg (decCells z0 z1 z2 z3 true 20 (sc : Int)), .nilIface]) (by simp [results, Tryz.results30, go_sem, p0, p1, p2, p3, p4, p5, p6]) rfl ⟨z0, z1, z2, z3, rfl, HE1.out.1, HE1.out.2.1, HE1.out.2.2.1.trans HP.out.1 (fun k hk e => by omega)⟩
end Go.Proofs.YthmopakaikhjlaaGreatDoor
