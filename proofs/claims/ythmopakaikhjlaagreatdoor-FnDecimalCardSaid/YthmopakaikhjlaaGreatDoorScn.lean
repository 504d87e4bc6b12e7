/- nat.scan: a number's words from its digits. -/
import Derived.Test.YthmopakaikhjlaaGreatDoorMk
import Derived.Test.YthmopakaikhjlaaGreatDoorPw
import Derived.Test.YthmopakaikhjlaaGreatDoorSgn
import Derived.Test.YthmopakaikhjlaaGreatDoorEof
namespace Go.Proofs.YthmopakaikhjlaaGreatDoor
open Go.RowKit

/-- The number that digits tell. -/
def dv (l : List Nat) : Nat := l.foldl (fun a d => a * 10 + d) 0
/-- The words L tell the number of the digits, and are few. -/
def Val (L ds : List Nat) : Prop := nv L = dv ds ∧ L.length ≤ 3
theorem dv_snoc (l : List Nat) (d : Nat) : dv (l ++ [d]) = dv l * 10 + d := by simp [dv]

/-- The text s has the digits ds from the place i0 on. -/
structure Digs (s : ByteArray) (i0 : Nat) (ds : List Nat) : Prop where
  size : s.size = i0 + ds.length
  at_ : ∀ j (h : j < ds.length) (h' : i0 + j < s.size), s[i0 + j].toNat = 48 + ds[j]
  le : ∀ d ∈ ds, d ≤ 9
  few : ds.length ≤ 39
  i0s : i0 ≤ 1

theorem eofNil (eb : Addr) (W : World) : (binOp .eql 47 (.iface 92 (.pointer (some eb))) .nilIface).run Tryz.prog W = .ok (.bool false) W := by kernel_rfl
theorem nilNil (W : World) : (binOp .eql 47 .nilIface .nilIface).run Tryz.prog W = .ok (.bool true) W := by kernel_rfl

/-- What the loop holds when j digits have been taken in. -/
structure Sc (w wr : World) (rd i0 : Nat) (s : ByteArray) (ds : List Nat) (j : Nat) (z : Value) (L : List Nat) (i D : Nat) : Prop where
  nt : Nt wr w.heap.size z L
  len : L.length ≤ j / 19
  idx : i = j % 19
  dlt : D < 10 ^ i
  val : nv L * 10 ^ i + D = dv (ds.take j)
  rdr : Rdr wr rd s (if j < ds.length then i0 + j + 1 else s.size)
  kept : Kept w wr (fun k => k = rd)

theorem Sc.more {w wr w' : World} {rd i0 : Nat} {s : ByteArray} {ds : List Nat} {j : Nat} {z : Value} {L : List Nat} {i D : Nat} (h : Sc w wr rd i0 s ds j z L i D) (hj : j < ds.length) (hi : i ≠ 18) (h9 : ds[j] ≤ 9) (hrw : rd < w.heap.size)
    (hk : Kept wr w' (fun k => k = rd)) (hr : Rdr w' rd s (if j + 1 < ds.length then i0 + (j + 1) + 1 else s.size)) : Sc w w' rd i0 s ds (j + 1) z L (i + 1) (D * 10 + ds[j]) := by
  have e1 := h.idx
  have e2 := h.len
  have h19 : (j + 1) % 19 = j % 19 + 1 := by omega
  refine ⟨h.nt.kept hk (fun k hk e => by have := h.nt.block k hk; omega), by omega, by omega, ?_, ?_, hr, h.kept.trans hk (fun _ _ h => h)⟩
  · have := h.dlt
    rw [Nat.pow_succ]
    omega
  · rw [List.take_succ_eq_append_getElem hj, dv_snoc, ← h.val, Nat.pow_succ, Nat.add_mul, Nat.mul_assoc, Nat.add_assoc]

theorem Sc.full {w wr w1 w' : World} {rd i0 : Nat} {s : ByteArray} {ds : List Nat} {j : Nat} {z z' : Value} {L L' : List Nat} {i D : Nat} (h : Sc w wr rd i0 s ds j z L i D) (hj : j < ds.length) (hi : i = 18) (hrw : rd < w.heap.size)
    (hz : Nt w1 w.heap.size z' L') (hv : nv L' = nv L * 10000000000000000000 + (D * 10 + ds[j])) (hl : L'.length ≤ L.length + 1) (hk1 : Kept wr w1 (fun k => z.ownBlock = some k))
    (hk : Kept w1 w' (fun k => k = rd)) (hr : Rdr w' rd s (if j + 1 < ds.length then i0 + (j + 1) + 1 else s.size)) : Sc w w' rd i0 s ds (j + 1) z' L' 0 0 := by
  have e1 := h.idx
  have e2 := h.len
  refine ⟨hz.kept hk (fun k hk e => by have := hz.block k hk; omega), by omega, by omega, by decide, ?_, hr, (h.kept.trans hk1 (fun k hk1 e => by have := h.nt.block k e; omega)).trans hk (fun _ _ h => h)⟩
  rw [List.take_succ_eq_append_getElem hj, dv_snoc, ← h.val, hv, hi]
  have : (10 : Nat) ^ 18 * 10 = 10000000000000000000 := by decide
  rw [Nat.pow_zero, Nat.mul_one, Nat.add_zero, Nat.add_mul, Nat.mul_assoc, this, Nat.add_assoc]

theorem readNext_any (rd i0 : Nat) (eb : Addr) (j : Nat) (s : ByteArray) (ds : List Nat) (hd : Digs s i0 ds) (hj : j < ds.length) (w : World) (h : Rdr w rd s (i0 + j + 1)) (he : w.cell? ⟨2, 0, none⟩ = some (eofV eb)) (h2 : rd ≠ 2) :
    Calls Tryz.prog 151 #[.pointer (some ⟨rd, 0, none⟩)] w fun e w' => ((∃ (h : j + 1 < ds.length), e = .returned (.tuple #[.int .u8 (48 + ((ds[j + 1] : Nat) : Int)), .nilIface])) ∨ (j + 1 = ds.length ∧ e = .returned (.tuple #[.int .u8 0, eofV eb]))) ∧ Rdr w' rd s (if j + 1 < ds.length then i0 + (j + 1) + 1 else s.size) ∧ Kept w w' (fun k => k = rd) := by
  have hsz := hd.size
  have hf := hd.few
  have hi := hd.i0s
  by_cases hn : j + 1 < ds.length
  · rw [if_pos hn]
    have hlt : i0 + (j + 1) < s.size := by omega
    have hb := hd.at_ (j + 1) hn hlt
    refine (readByte_any rd (i0 + (j + 1)) s w h hlt (by omega)).mono ?_
    rintro e w' ⟨rfl, hr, hk⟩
    refine ⟨.inl ⟨hn, ?_⟩, hr, hk⟩
    rw [hb]
    congr 4
  · rw [if_neg hn]
    have e1 : i0 + j + 1 = s.size := by omega
    rw [e1] at h
    refine (readEof_any rd s.size eb s w h (Nat.le_refl _) he h2).mono ?_
    rintro e w' ⟨rfl, hr, hk⟩
    exact ⟨.inr ⟨by omega, rfl⟩, hr, hk⟩

set_option maxRecDepth 100000 in
set_option maxHeartbeats 4000000 in
theorem scan_any (rd i0 : Nat) (eb : Addr) (s : ByteArray) (ds : List Nat) (hd : Digs s i0 ds) (hne : 0 < ds.length) (w : World) (h : Rdr w rd s i0) (he : w.cell? ⟨2, 0, none⟩ = some (eofV eb)) (h2 : rd ≠ 2) :
    Calls Tryz.prog 71 #[.slice none 0 0, .iface 96 (.pointer (some ⟨rd, 0, none⟩)), .int .i64 10, .bool false] w fun e w' => ∃ v L n, e = .returned (.tuple #[v, .int .i64 10, .int .i64 n, .nilIface]) ∧ Nt w' w.heap.size v L ∧ Val L ds ∧ Rdr w' rd s s.size ∧ Kept w w' (fun k => k = rd) := by
  have hen := enter151
  have hme := methReadByte
  have hsz := hd.size
  have hfew := hd.few
  have hi0 := hd.i0s
  have HD := Go.Lib.hid hd
  have HE := Go.Lib.hid he
  have HR := Go.Lib.hid h
  have h0s : i0 < s.size := by omega
  have hb0 := hd.at_ 0 hne h0s
  have hd0 := hd.le _ (List.getElem_mem hne)
  simp only [Nat.add_zero] at hb0
  obtain ⟨d0, hd0e⟩ : ∃ d, ds[0] = d := ⟨_, rfl⟩
  rw [hd0e] at hb0 hd0
  have HRB := readByte_any rd i0 s w h h0s (by omega)
  rw [hb0] at HRB
  have HRB' := Go.Lib.hid HRB
  clear HRB hd he h hb0
  go_enter Tryz.func71, Tryz.ntmps71
  go_wp2_with (fail)
  refine HRB'.out.mono ?_
  rintro e w1 ⟨rfl, hr, hk⟩
  have HR1 := Go.Lib.hid (And.intro hr hk)
  clear hr hk
  go_wp2_with (fail)
  refine (maxPow_any _).mono ?_
  rintro e w2 ⟨rfl, hw⟩
  replace hw := hw.symm
  subst hw
  go_wp2_with (fail)
  have hS0 : Sc w w1 rd i0 s ds 0 (.slice none 0 0) [] 0 0 := ⟨Nt.nil _ _, Nat.zero_le _, rfl, by decide, by simp [nv, dv], by rw [if_pos hne]; exact HR1.out.1, HR1.out.2⟩
  have HS0 := Go.Lib.hid hS0
  have HD0 := Go.Lib.hid hd0e
  clear hS0 hd0e
  go_loopw [0, 3, 10, 11, 13, 14, 15, 20, 21, 22] (fun z fo cnt er pr iv ch di ii dp wr => ∃ (j : Nat) (L : List Nat) (i D : Nat) (p : Int), fo = .bool false ∧ cnt = .int .i64 (j : Int) ∧ pr = .int .i32 p ∧ p ≠ 95 ∧ iv = .bool false ∧ di = .int .u64 (D : Int) ∧ ii = .int .i64 (i : Int) ∧ dp = .int .i64 (-1) ∧ j ≤ ds.length ∧ Sc w wr rd i0 s ds j z L i D ∧ ((∃ (hj : j < ds.length), er = .nilIface ∧ ch = .int .u8 (48 + ((ds[j] : Nat) : Int))) ∨ (j = ds.length ∧ er = eofV eb ∧ ch = .int .u8 0))) (fun _ _ cnt _ _ _ _ _ _ _ _ => ds.length - (intOf cnt).toNat)
  case atStart => exact ⟨0, [], 0, 0, 46, rfl, rfl, rfl, by decide, rfl, rfl, rfl, rfl, Nat.zero_le _, HS0.out, .inl ⟨hne, rfl, by rw [HD0.out]⟩⟩
  case round =>
    obtain ⟨j, L, i, D, p, rfl, rfl, rfl, hp, rfl, rfl, rfl, rfl, hj, hS, hcase⟩ := hrel
    have HS := Go.Lib.hid hS
    clear hS
    rcases hcase with ⟨hjn, rfl, rfl⟩ | ⟨hjn, rfl, rfl⟩
    · have hdj := (HD.out).le _ (List.getElem_mem hjn)
      have htk : ds.take (j + 1) = ds.take j ++ [ds[j]] := List.take_succ_eq_append_getElem hjn
      have HTK := Go.Lib.hid htk
      have hrw : rd < w.heap.size := HR.out.lt
      have heof : wr.cell? ⟨2, 0, none⟩ = some (eofV eb) := HS.out.kept.held HE.out (fun e => h2 e.symm)
      have hrdr := HS.out.rdr
      rw [if_pos hjn] at hrdr
      have HNX := Go.Lib.hid (readNext_any rd i0 eb j s ds HD.out hjn wr hrdr heof h2)
      have HNX2 := Go.Lib.hid (fun (w1 : World) (hk : Kept wr w1 (fun k => u0.ownBlock = some k)) => readNext_any rd i0 eb j s ds HD.out hjn w1 (hrdr.kept hk (fun e => by have := HS.out.nt.block rd e; omega)) (hk.held heof (fun e => by
        have h3 := HS.out.nt.block 2 e
        have h4 := World.block_lt_of_cell? w _ HE.out
        have h5 : 2 < w.heap.size := h4
        omega)) h2)
      have HMO := Go.Lib.hid (fun (w' : World) (hi : i ≠ 18) (hk : Kept wr w' (fun k => k = rd)) (hr : Rdr w' rd s (if j + 1 < ds.length then i0 + (j + 1) + 1 else s.size)) => HS.out.more hjn hi hdj hrw hk hr)
      have HFU := Go.Lib.hid (fun (w1 w' : World) (z' : Value) (L' : List Nat) (hi : i = 18) (hz : Nt w1 w.heap.size z' L') (hv : nv L' = nv L * 10000000000000000000 + (D * 10 + ds[j])) (hl : L'.length ≤ L.length + 1) (hk1 : Kept wr w1 (fun k => u0.ownBlock = some k)) (hk : Kept w1 w' (fun k => k = rd)) (hr : Rdr w' rd s (if j + 1 < ds.length then i0 + (j + 1) + 1 else s.size)) => HS.out.full hjn hi hrw hz hv hl hk1 hk hr)
      clear htk heof hrdr hrw
      generalize ds[j] = d at *
      have hi19 : i < 19 := by rw [HS.out.idx]; exact Nat.mod_lt _ (by decide)
      have hDb : D < 1000000000000000000 := Nat.lt_of_lt_of_le HS.out.dlt (Nat.le_trans (Nat.pow_le_pow_right (by decide) (show i ≤ 18 by omega)) (by decide))
      have w1 : IntKind.u64.wrap ((D : Int) * 10) = ((D * 10 : Nat) : Int) := by rw [IntWalk.u64_in _ (by omega)]; omega
      have w2 : IntKind.u64.wrap (((D * 10 : Nat) : Int) + (d : Int)) = ((D * 10 + d : Nat) : Int) := by rw [IntWalk.u64_in _ (by omega)]; omega
      have w3 : IntKind.u8.wrap (48 + (d : Int) - 48) = (d : Int) := by rw [IntWalk.u8_in _ (by omega)]; omega
      have b46 : ((48 + (d : Int)) == 46) = false := by simp; omega
      have b95 : ((48 + (d : Int)) == 95) = false := by simp; omega
      have b48 : decide ((48 : Int) ≤ 48 + (d : Int)) = true := by simp; omega
      have b57 : decide (48 + (d : Int) ≤ 57) = true := by simp; omega
      have b10 : ¬ (10 : Int) ≤ (d : Int) := by omega
      have b10n : ¬ 10 ≤ d := by omega
      have ji : (j : Int) ≤ 39 := by omega
      have ii : (i : Int) < 19 := by omega
      by_cases hi18 : i = 18
      · subst hi18
        have H79 := mulAddWW_any w.heap.size 10000000000000000000 (D * 10 + d) u0 L wr HS.out.nt HS.out.kept.size (by have := HS.out.len; omega) (by decide) (by decide) (by omega)
        rw [show ((10000000000000000000 : Nat) : Int) = 10000000000000000000 from rfl] at H79
        rw [show (((D * 10 + d : Nat)) : Int) = (D : Int) * 10 + (d : Int) by omega] at H79
        have HH79 := Go.Lib.hid H79
        clear H79
        go_wp2_with (fail)
        refine HH79.out.mono ?_
        rintro e w5 ⟨z5, L5, rfl, hz5, hv5, ht5, hl5, hk5, hm5⟩
        have H5 := Go.Lib.hid (And.intro hz5 (And.intro hv5 (And.intro hl5 hk5)))
        clear hz5 hv5 ht5 hl5 hk5 hm5
        go_wp2_with (fail)
        refine (HNX2.out w5 H5.out.2.2.2).mono ?_
        rintro e w6 ⟨hcs, hr6, hk6⟩
        have HSC := Go.Lib.hid (HFU.out w5 w6 z5 L5 trivial H5.out.1 H5.out.2.1 H5.out.2.2.1 H5.out.2.2.2 hk6 hr6)
        clear hr6 hk6
        rcases hcs with ⟨hn, rfl⟩ | ⟨hn, rfl⟩
        · go_wp2_with (fail)
          go_roundw
          case rel => exact ⟨j + 1, L5, 0, 0, 48, rfl, by simp, rfl, by decide, rfl, rfl, rfl, rfl, hjn, HSC.out, .inl ⟨hn, rfl, rfl⟩⟩
          case measure => simp [intOf]; omega
        · go_wp2_with (fail)
          go_roundw
          case rel => exact ⟨j + 1, L5, 0, 0, 48, rfl, by simp, rfl, by decide, rfl, rfl, rfl, rfl, hjn, HSC.out, .inr ⟨hn, rfl, rfl⟩⟩
          case measure => simp [intOf]; omega
      · have ne19 : ((i : Int) + 1 == 19) = false := by simp; omega
        have ne19n : (i + 1 == 19) = false := by simp; omega
        go_wp2_with (fail)
        refine HNX.out.mono ?_
        rintro e w6 ⟨hcs, hr6, hk6⟩
        have HSC := Go.Lib.hid (HMO.out w6 hi18 hk6 hr6)
        clear hr6 hk6
        rcases hcs with ⟨hn, rfl⟩ | ⟨hn, rfl⟩
        · go_wp2_with (fail)
          go_roundw
          case rel => exact ⟨j + 1, L, i + 1, D * 10 + d, 48, rfl, by simp, rfl, by decide, rfl, by simp, by simp, rfl, hjn, HSC.out, .inl ⟨hn, rfl, rfl⟩⟩
          case measure => simp [intOf]; omega
        · go_wp2_with (fail)
          go_roundw
          case rel => exact ⟨j + 1, L, i + 1, D * 10 + d, 48, rfl, by simp, rfl, by decide, rfl, by simp, by simp, rfl, hjn, HSC.out, .inr ⟨hn, rfl, rfl⟩⟩
          case measure => simp [intOf]; omega
    · have heof : wr.cell? ⟨2, 0, none⟩ = some (eofV eb) := HS.out.kept.held HE.out (fun e => h2 e.symm)
      unfold eofV at heof
      have hqe := eofEof eb
      have hval := HS.out.val
      rw [hjn, List.take_length] at hval
      have hrd := HS.out.rdr
      rw [if_neg (by omega)] at hrd
      have HVR := Go.Lib.hid (And.intro hval hrd)
      clear hval hrd
      have hbnd : i < 19 ∧ D < 18446744073709551616 ∧ L.length ≤ 2 := by
        have h1 := HS.out.idx
        have h3 := HS.out.len
        have h4 : i < 19 := by rw [h1]; exact Nat.mod_lt _ (by decide)
        refine ⟨h4, Nat.lt_of_lt_of_le HS.out.dlt (Nat.le_trans (Nat.pow_le_pow_right (by decide) (show i ≤ 18 by omega)) (by decide)), by omega⟩
      have HBN := Go.Lib.hid hbnd
      have hn0 : ((j : Int) == 0) = false := by simp; omega
      have hn0n : (j == 0) = false := by simp; omega
      have hp95 : (p == 95) = false := by simpa using hp
      clear hbnd hjn
      unfold eofV
      by_cases hi0 : 0 < i
      · have i1 : (0 : Int) < (i : Int) := by omega
        have hpw : 10 ^ i < 18446744073709551616 ∧ 0 < 10 ^ i := ⟨Nat.lt_of_le_of_lt (Nat.pow_le_pow_right (by decide) (show i ≤ 18 by have := HBN.out.1; omega)) (by decide), Nat.pow_pos (by decide)⟩
        have HP := pow_any i (by have := HBN.out.1; omega) wr
        have H79 := mulAddWW_any w.heap.size (10 ^ i) D u0 L wr HS.out.nt HS.out.kept.size HBN.out.2.2 hpw.1 hpw.2 HBN.out.2.1
        have hv0 := HVR.out.1
        generalize 10 ^ i = T at *
        have HPP := Go.Lib.hid HP
        have HH79 := Go.Lib.hid H79
        have HV0 := Go.Lib.hid hv0
        clear HP H79 hpw hv0
        go_wp2_with (fail)
        refine HPP.out.mono ?_
        rintro e w5 ⟨rfl, hw⟩
        replace hw := hw.symm
        subst hw
        go_wp2_with (fail)
        refine HH79.out.mono ?_
        rintro e w5 ⟨z5, L5, rfl, hz5, hv5, ht5, hl5, hk5, hm5⟩
        have H5 := Go.Lib.hid (And.intro hz5 (And.intro hv5 hk5))
        have HL5 := Go.Lib.hid hl5
        clear hz5 hv5 ht5 hl5 hk5 hm5
        go_wp2
        refine bodyPost_ret (v := .tuple #[z5, .int .i64 10, .int .i64 j, .nilIface]) (by simp [results, Tryz.results71, go_sem]) rfl ⟨z5, L5, j, rfl, H5.out.1, ⟨H5.out.2.1.trans HV0.out, by have h1 := HL5.out; have h2 := HBN.out.2.2; omega⟩, HVR.out.2.kept H5.out.2.2 (fun e => by have h3 := HS.out.nt.block rd e; have h4 := HR.out.lt; omega), HS.out.kept.trans H5.out.2.2 (fun k hk e => by have h3 := HS.out.nt.block k e; omega)⟩
      · obtain rfl : i = 0 := by omega
        have hv0 := HVR.out.1
        have hD0 := HS.out.dlt
        rw [Nat.pow_zero] at hD0
        have hv1 : nv L = dv ds := by rw [Nat.pow_zero, Nat.mul_one] at hv0; omega
        have HV1 := Go.Lib.hid hv1
        clear hv0 hD0 hv1
        go_wp2
        refine bodyPost_ret (v := .tuple #[u0, .int .i64 10, .int .i64 j, .nilIface]) (by simp [results, Tryz.results71, go_sem]) rfl ⟨u0, L, j, rfl, HS.out.nt, ⟨HV1.out, by have h2 := HBN.out.2.2; omega⟩, HVR.out.2, HS.out.kept⟩
end Go.Proofs.YthmopakaikhjlaaGreatDoor
