/- The walk of str2ucs2, and of manglePassword. -/
import Derived.Test.YthmopakaikhjlaaGreatDoorEnc
namespace Go.Proofs.YthmopakaikhjlaaGreatDoor
open Go.RowKit

/-- '[]rune(s)' lays the text's code points. -/
theorem run_runes (s : ByteArray) (hs : s.size ≤ 4294967296) (w : World) :
    ∃ (c : Nat) (C : Array Value), (convert 9 90 (.string s)).run Tryz.prog w = .ok (.slice (some ⟨w.heap.size, 0, none⟩) (runesOf s).length c) (w.alloc (.cells C 21)).drew ∧
      ∀ j (h : j < (runesOf s).length), C[j]? = some (.int .i32 (((runesOf s)[j] : Nat) : Int)) := by
  have e : Conv.runesFrom s s.size 0 #[] = ((runesOf s).map (fun r : Nat => Value.int .i32 (r : Int))).toArray := by
    rw [runesFrom_eq]
    simp [runesOf]
  have el : (Conv.runesFrom s s.size 0 #[]).size = (runesOf s).length := by rw [e]; simp
  have hl := runes_length s s.size 0
  have h := run_runes_of_string (P := Tryz.prog) w 9 90 21 s Tryz.underlying9 Tryz.underlying90 Tryz.underlying21 (by rw [el]; unfold runesOf; omega)
  rw [el] at h
  refine ⟨_, _, h, fun j hj => ?_⟩
  rw [Array.getElem?_append_left (by rw [el]; exact hj), e]
  simp [hj]

theorem set_two (A : List Nat) (n q x y : Nat) (hq : q = A.length) (h : q + 1 < n) : ((A ++ List.replicate (n - q) 0).set q x).set (q + 1) y = (A ++ [x, y]) ++ List.replicate (n - (q + 2)) 0 := by
  rw [set_fill A n q x hq (by omega), set_fill (A ++ [x]) n (q + 1) y (by simp [hq]) h, List.append_assoc A]
  rfl

theorem ucs_units (l : List Nat) : ucs l = (units l).flatMap le16 := rfl
theorem le16s_length (l : List Nat) : (l.flatMap le16).length = 2 * l.length := by
  induction l with
  | nil => rfl
  | cons u us ih => simp only [List.flatMap_cons, List.length_append, List.length_cons, ih]; simp [le16]; omega
theorem le16s_take (l : List Nat) (k : Nat) (hk : k < l.length) : (l.take (k + 1)).flatMap le16 = (l.take k).flatMap le16 ++ [l[k] % 256, l[k] / 256 % 256] := by
  rw [List.take_succ_eq_append_getElem hk, List.flatMap_append]
  simp [le16]

theorem and_255 (x : Int) (h0 : 0 ≤ x) (h : x < 256) : bits .and .u8 x 255 = x := by
  obtain ⟨n, rfl⟩ := Int.eq_ofNat_of_zero_le h0
  have h' : ∀ x : Fin 256, bits .and .u8 (x.val : Int) 255 = ((x.val : Nat) : Int) := by decide +kernel
  exact h' ⟨n, by omega⟩

set_option maxRecDepth 100000 in
theorem str_any (s : ByteArray) (hs : s.size ≤ 4294967296) (w : World) :
    Calls Tryz.prog 40 #[.string s] w fun e w' => ∃ v, e = .returned v ∧ Row w.heap.size w' v (ucs (runesOf s)) ∧ Fresh w w' := by
  obtain ⟨i0, hi, hz0, hz1, hz2⟩ := info_parts info5
  obtain ⟨c, C, hrun, hC⟩ := run_runes s hs w
  have hg := runes_good s s.size 0
  have hl := runes_length s s.size 0
  change ∀ r ∈ runesOf s, good r at hg
  change (runesOf s).length ≤ s.size at hl
  rw [ucs_units]
  have hul := (units_length (runesOf s)).2
  have hult := units_lt hg
  have HC := Go.Lib.hid hC
  have HG := Go.Lib.hid hg
  clear hC hg
  go_enter Tryz.func40, Tryz.ntmps40
  go_wp2_with (fail)
  refine (encode_any w.heap.size c (runesOf s) (by omega) HG.out _ (fun j h => ?_)).mono ?_
  · have := cell_of_row (w.alloc (.cells C 21)) w.heap.size j C 21 (0, 0) (heap_alloc_new _ _)
    exact this.trans (HC.out j h)
  rintro e w1 ⟨v, rfl, hr, hF⟩
  generalize hU : units (runesOf s) = U at *
  have HU := Go.Lib.hid hU
  clear hU
  have HL := Go.Lib.hid hult
  clear hult
  obtain ⟨A, cu, rfl⟩ := hr.slice
  have hF0 : Fresh w w1 := ((Kept.refl w _).alloc _).drew.fresh hF
  have hsz := hF0.size
  go_wp2_with (at_make; refine wpList_make_full _ rfl _ _ 28 rfl w.heap.size 5 i0 (.int .u8 0) 1 Tryz.underlying28 hi hz0 hz1 .i64 .i64 _ _ (2 * U.length) rfl rfl (by omega) (by omega) (by rw [hz2]; omega) (by unfold maxLen; omega) hsz ?_; intro w2 hown hgr)
  have hF12 : Fresh w1 w2 := (Kept.of_grown hgr).mono (fun _ _ h => by cases h)
  have hF2 : Fresh w w2 := hF0.fresh hF12
  have hr2 : Row w.heap.size w2 (.slice (some ⟨w1.heap.size, 0, none⟩) (2 * U.length) (2 * U.length)) (List.replicate (2 * U.length) 0) :=
    RowK.of_own hown (by rw [Nat.mul_one]; show (madeCells #[.int .u8 0] (2 * U.length)).toList = _; rw [toList_madeCells_one]; simp [ints]) rfl
  have hru := hr.fresh hF12
  have hAb : ∀ k, (Value.slice A U.length cu).ownBlock = some k → k < w1.heap.size := fun k hk => (hr.block k hk).2
  clear hown hgr hr hF
  have HAb := Go.Lib.hid hAb
  clear hAb
  go_wp2
  go_loopw [5] (fun i wr => ∃ k : Nat, k ≤ U.length ∧ i = .int .i64 k ∧ Row w.heap.size wr (.slice (some ⟨w1.heap.size, 0, none⟩) (2 * U.length) (2 * U.length)) ((U.take k).flatMap le16 ++ List.replicate (2 * U.length - 2 * k) 0) ∧ Fresh w wr ∧ RowK .u16 91 (w.alloc (.cells C 21)).drew.heap.size wr (.slice A U.length cu) U) (fun i _ => U.length - (intOf i).toNat)
  case atStart => exact ⟨0, by omega, rfl, by simpa using hr2, hF2, hru⟩
  case round =>
    obtain ⟨k, hk, rfl, hrk, hFk, huk⟩ := hrel
    by_cases hlt : k < U.length
    · obtain ⟨g, rfl, hbg, hgs⟩ := huk.form (by omega)
      have hcu := huk.cellAt k hlt
      have hgw := HAb.out g rfl
      have hcell := hrk.cellAt
      have hll : ((U.take k).flatMap le16 ++ List.replicate (2 * U.length - 2 * k) 0).length = 2 * U.length := by
        rw [List.length_append, le16s_length, List.length_replicate, List.length_take]; omega
      obtain ⟨z0, hc0⟩ : ∃ z : Int, wr.cell? ⟨w1.heap.size, 2 * k, none⟩ = some (.int .u8 z) := ⟨_, hcell (2 * k) (by omega)⟩
      obtain ⟨z1, hc1⟩ : ∃ z : Int, wr.cell? ⟨w1.heap.size, 2 * k + 1, none⟩ = some (.int .u8 z) := ⟨_, hcell (2 * k + 1) (by omega)⟩
      have hf0 := hrk.frozenAt (2 * k)
      have hf1 := hrk.frozenAt (2 * k + 1)
      have hul1 := HL.out U[k] (List.getElem_mem hlt)
      have hs := set_two ((U.take k).flatMap le16) (2 * U.length) (2 * k) (U[k] % 256) (U[k] / 256 % 256) (by rw [le16s_length, List.length_take]; omega) (by omega)
      rw [← le16s_take U k hlt] at hs
      have hr3 := (hrk.stored (2 * k) (U[k] % 256)).stored (2 * k + 1) (U[k] / 256 % 256)
      rw [hs] at hr3
      have hu3 : RowK .u16 91 (w.alloc (.cells C 21)).drew.heap.size ((wr.setCell ⟨w1.heap.size, 2 * k, none⟩ (.int .u8 ((U[k] % 256 : Nat) : Int))).setCell ⟨w1.heap.size, 2 * k + 1, none⟩ (.int .u8 ((U[k] / 256 % 256 : Nat) : Int))) (.slice (some ⟨g, 0, none⟩) U.length cu) U :=
        huk.kept (((Kept.refl wr (fun b => b = w1.heap.size)).setCell (.inl rfl) _).setCell (.inl rfl) _) (fun b hb e => by simp [Value.ownBlock] at hb; omega)
      have hF3 : Fresh w ((wr.setCell ⟨w1.heap.size, 2 * k, none⟩ (.int .u8 ((U[k] % 256 : Nat) : Int))).setCell ⟨w1.heap.size, 2 * k + 1, none⟩ (.int .u8 ((U[k] / 256 % 256 : Nat) : Int))) := (hFk.setCell (.inr hsz) _).setCell (.inr hsz) _
      clear hs hcell hll hrk huk
      go_wp2
      go_roundw
      case rel =>
        have e0 : ((U[k] % 256 : Nat) : Int) = ((U[k] : Nat) : Int) % 256 := by omega
        have e1 : ((U[k] / 256 % 256 : Nat) : Int) = ((U[k] : Nat) : Int) / 256 := by omega
        rw [e0, e1] at hr3 hu3 hF3
        exact ⟨k + 1, by omega, by go_num, hr3, hF3, hu3⟩
      case measure => simp [intOf]; omega
    · obtain rfl : k = U.length := by omega
      go_wp2
      go_ret
      refine ⟨_, rfl, ?_, hFk⟩
      rw [HU.out]
      simpa using hrk

end Go.Proofs.YthmopakaikhjlaaGreatDoor
