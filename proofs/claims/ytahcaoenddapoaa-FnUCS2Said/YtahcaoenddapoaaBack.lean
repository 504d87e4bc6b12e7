/- The walks of ucs22str, FromUCS2 and what lies between: units of UTF-16 are read back as the text. -/
import Derived.Test.YtahcaoenddapoaaDec
import Derived.Test.YtahcaoenddapoaaQuiet
import Derived.BigRegion
import Derived.ShutString
namespace Go.Proofs.Ytahcaoenddapoaa
open Go.RowKit

theorem run_forIn_runes {P : Program} {w : World} (f : Value → ByteArray → Sem (ForInStep ByteArray))
    (hf : ∀ (n : Int) (r : ByteArray), (f (.int .i32 n) r).run P w = .ok (.yield (r ++ Utf8.encode n)) w) :
    ∀ (ns : List Nat) (s : ByteArray), (forIn (ints .i32 ns) s f).run P w = .ok (.mk (s.data ++ (enc ns).toArray)) w := by
  intro ns
  induction ns with
  | nil =>
    intro s
    have e : (ByteArray.mk (s.data ++ (enc []).toArray)) = s := by cases s; simp [enc]
    have h0 : (forIn (ints .i32 []) s f).run P w = .ok s w := by
      have e1 : ints .i32 [] = [] := rfl
      rw [e1]
      simp only [List.forIn_nil, Sem.run_pure]
    rw [h0]
    exact congrArg (fun r => Result.ok r w) e.symm
  | cons n ns ih =>
    intro s
    have e : ints .i32 (n :: ns) = .int .i32 (n : Int) :: ints .i32 ns := rfl
    rw [e]
    simp only [List.forIn_cons, Sem.run_bind, hf, Result.andThen]
    rw [ih]
    have e2 : ByteArray.mk ((s ++ Utf8.encode n).data ++ (enc ns).toArray) = ByteArray.mk (s.data ++ (enc (n :: ns)).toArray) := congrArg ByteArray.mk (Array.ext' (by simp [enc]))
    rw [e2]

/-- 'string(r)', r a row of code points. -/
theorem BtsK.text {P : Program} {w : World} {v : Value} {l : List Nat} (h : BtsK .i32 w v l) (src dst e : TypeId) (hs : P.underlying src = some (.slice e)) (he : P.underlying e = some (.int .i32)) (hd : P.underlying dst = some .string) :
    (convert src dst v).run P w = .ok (.string ⟨(enc l).toArray⟩) w := by
  obtain ⟨A, c, rfl, h1, h2, h3, h4⟩ := h
  have e0 : (convert src dst (.slice A l.length c)).run P w = (Conv.runesToString (.slice A l.length c)).run P w := by
    simp [convert, run_underlying hs, run_underlying hd, run_underlying he]
  rw [e0]
  cases A with
  | none =>
    obtain ⟨rfl, rfl⟩ := h3 rfl
    rfl
  | some ad =>
    obtain ⟨b, o, rfl, hb, hc⟩ := h4 ad rfl
    have hl := run_loadCells_list (P := P) w ⟨b, o, none⟩ (ints .i32 l) (fun j v hj => by
      have hj' : j < l.length := by
        have := (List.getElem?_eq_some_iff.1 hj).1
        rwa [ints_length] at this
      have hadd : (⟨b, o, none⟩ : Addr).add j = ⟨b, o + j, none⟩ := by unfold Addr.add; split <;> simp_all
      rw [ints_get .i32 l j hj'] at hj
      rw [hadd, hc j hj', hj])
    rw [ints_length] at hl
    unfold Conv.runesToString
    simp only [Sem.run_bind, hl, Result.andThen, List.forIn_toArray]
    rw [run_forIn_runes _ (by intro n r; simp [Sem.run_pure])]
    simp [Sem.run_pure]

set_option maxRecDepth 100000 in
theorem decodeU_any (l : List Nat) (hl : l.length ≤ 4294967296) (hg : ∀ r ∈ l, good r) (A : Option Addr) (n c base : Nat) (w : World) (hu : RowK .u16 139 base w (.slice A n c) (units l)) :
    Calls Try.prog 101 #[.slice A n c] w fun e w' => ∃ v, e = .returned v ∧ RowK .i32 21 w.heap.size w' v l ∧ Fresh w w' := by
  obtain ⟨i0, hi, hz0, hz1, hz2⟩ := info_parts info21
  have hub := hu.block
  have HG := Go.Lib.hid hg
  have HU := Go.Lib.hid hub
  clear hg hub
  go_enter Try.func101, Try.ntmps101
  go_wp2_with (at_make; refine wpList_make_own _ rfl _ _ 140 rfl w.heap.size 21 i0 (.int .i32 0) 1 Try.underlying140 hi hz0 hz1 .i64 .i64 _ 64 rfl rfl rfl (by rw [hz2]; decide) (by decide) (Nat.le_refl _) ?_; intro w1 hown hgr)
  have hF1 : Fresh w w1 := (Kept.of_grown hgr).mono (fun _ _ h => by cases h)
  have hr1 : RowK .i32 21 w.heap.size w1 (.slice (some ⟨w.heap.size, 0, none⟩) 0 64) [] := RowK.of_own hown rfl rfl
  go_wp2_with (fail)
  refine (decode_any l hl HG.out A n c w.heap.size base w.heap.size _ (hu.fresh hF1) hr1 hF1.size (fun k hk e => ?_)).mono ?_
  · have := (HU.out k hk).2
    omega
  rintro e w2 ⟨v, rfl, hr2, hK2⟩
  go_wp2
  go_ret
  exact ⟨v, rfl, hr2, hF1.trans hK2 (fun k hk e => by omega)⟩

theorem or_u16 (a b : Int) (a0 : 0 ≤ a) (a1 : a < 256) (b0 : 0 ≤ b) (b1 : b < 256) : bits .or .u16 a (b * 256) = a + b * 256 := by
  obtain ⟨m, rfl⟩ := Int.eq_ofNat_of_zero_le a0
  obtain ⟨n, rfl⟩ := Int.eq_ofNat_of_zero_le b0
  have h1 : (BitVec.ofInt 16 (m : Int)).toNat = m := by
    rw [BitVec.ofInt_natCast, BitVec.toNat_ofNat]; exact Nat.mod_eq_of_lt (by omega)
  have h2 : (BitVec.ofInt 16 ((n : Int) * 256)).toNat = 2 ^ 8 * n := by
    have : ((n : Int) * 256) = ((2 ^ 8 * n : Nat) : Int) := by omega
    rw [this, BitVec.ofInt_natCast, BitVec.toNat_ofNat]; exact Nat.mod_eq_of_lt (by omega)
  show IntKind.u16.wrap ((BitVec.ofInt 16 (m : Int) ||| BitVec.ofInt 16 ((n : Int) * 256)).toNat : Int) = _
  rw [BitVec.toNat_or, h1, h2, Nat.or_comm, ← Nat.two_pow_add_eq_or_of_lt (by omega : m < 2 ^ 8), IntKind.wrap_u16]
  omega

theorem le16s_get (l : List Nat) (k : Nat) (hk : k < l.length) : (l.flatMap le16)[2 * k]? = some (l[k] % 256) ∧ (l.flatMap le16)[2 * k + 1]? = some (l[k] / 256 % 256) := by
  induction l generalizing k with
  | nil => simp at hk
  | cons u us ih =>
    have e : (u :: us).flatMap le16 = [u % 256, u / 256 % 256] ++ us.flatMap le16 := by simp [le16]
    rw [e]
    cases k with
    | zero => simp
    | succ k =>
      have := ih k (by simpa using hk)
      rw [List.getElem?_append_right (by simp; omega), List.getElem?_append_right (by simp; omega)]
      simp only [List.length_cons, List.length_nil, List.getElem_cons_succ]
      rw [show 2 * (k + 1) - (0 + 1 + 1) = 2 * k by omega, show 2 * (k + 1) + 1 - (0 + 1 + 1) = 2 * k + 1 by omega]
      exact this

set_option maxRecDepth 100000 in
theorem ucs22str_any (l : List Nat) (hl : l.length ≤ 4294967296) (hg : ∀ r ∈ l, good r) (A : Option Addr) (n c base : Nat) (w : World) (hu : Row base w (.slice A n c) (ucs l)) :
    Calls Try.prog 74 #[.slice A n c] w fun e w' => e = .returned (.tuple #[.string ⟨(enc l).toArray⟩, .nilIface]) ∧ Fresh w w' := by
  obtain ⟨i0, hi, hz0, hz1, hz2⟩ := info_parts info139
  have hn := hu.len
  rw [ucs_length] at hn
  have hul := (units_length l).2
  have hub := hu.block
  have hult := units_lt hg
  have HG := Go.Lib.hid hg
  have HB := Go.Lib.hid hub
  clear hg hub
  rw [ucs_units] at hu
  generalize hU : units l = U at *
  have HU := Go.Lib.hid hU
  clear hU
  have HL := Go.Lib.hid hult
  clear hult
  subst hn
  have h2 : ((2 * U.length : Nat) : Int) % 2 = 0 := by omega
  have h3 : ((2 * U.length : Nat) : Int) / 2 = (U.length : Int) := by omega
  go_enter Try.func74, Try.ntmps74
  go_wp2_with (at_make; refine wpList_make_full _ rfl _ _ 138 rfl w.heap.size 139 i0 (.int .u16 0) 1 Try.underlying138 hi hz0 hz1 .i64 .i64 _ _ U.length rfl rfl (by omega) (by omega) (by rw [hz2]; omega) (by unfold maxLen; omega) (Nat.le_refl _) ?_; intro w1 hown hgr)
  have hF1 : Fresh w w1 := (Kept.of_grown hgr).mono (fun _ _ h => by cases h)
  have hr1 : RowK .u16 139 w.heap.size w1 (.slice (some ⟨w.heap.size, 0, none⟩) U.length U.length) (List.replicate U.length 0) :=
    RowK.of_own hown (by rw [Nat.mul_one]; show (madeCells #[.int .u16 0] U.length).toList = _; rw [toList_madeCells_one]; simp [ints]) rfl
  clear hown hgr
  go_wp2_with (fail)
  go_loopw [17] (fun i wr => ∃ k : Nat, k ≤ U.length ∧ i = .int .i64 k ∧ RowK .u16 139 w.heap.size wr (.slice (some ⟨w.heap.size, 0, none⟩) U.length U.length) (U.take k ++ List.replicate (U.length - k) 0) ∧ Fresh w wr) (fun i _ => U.length - (intOf i).toNat)
  case atStart => exact ⟨0, by omega, rfl, by simpa using hr1, hF1⟩
  case round =>
    obtain ⟨k, hk, rfl, hrk, hFk⟩ := hrel
    by_cases hlt : k < U.length
    · have huk := hu.fresh hFk
      obtain ⟨g, rfl, hbg, hgs⟩ := huk.form (by omega)
      have hcell := huk.cellAt
      have hlen : (U.flatMap le16).length = 2 * U.length := le16s_length U
      obtain ⟨s0, s1⟩ := le16s_get U k hlt
      have hc0 := hcell (2 * k) (by omega)
      have hc1 := hcell (2 * k + 1) (by omega)
      rw [List.getElem?_eq_getElem (by omega)] at s0 s1
      injection s0 with s0
      injection s1 with s1
      rw [s0] at hc0
      rw [s1] at hc1
      obtain ⟨z, hcz⟩ : ∃ z : Int, wr.cell? ⟨w.heap.size, k, none⟩ = some (.int .u16 z) := ⟨_, hrk.cellAt k (by simp; omega)⟩
      have hfz := hrk.frozenAt k
      have hul1 := HL.out U[k] (List.getElem_mem hlt)
      have hs := set_fill (U.take k) U.length k U[k] (by simp; omega) hlt
      rw [← List.take_succ_eq_append_getElem hlt] at hs
      have hr3 := hrk.stored k U[k]
      rw [hs] at hr3
      have hF3 : Fresh w (wr.setCell ⟨w.heap.size, k, none⟩ (.int .u16 ((U[k] : Nat) : Int))) := hFk.setCell (.inr (Nat.le_refl _)) _
      obtain ⟨X, hX⟩ : ∃ X : Int, X = ((U[k] % 256 : Nat) : Int) := ⟨_, rfl⟩
      obtain ⟨Y, hY⟩ : ∃ Y : Int, Y = ((U[k] / 256 % 256 : Nat) : Int) := ⟨_, rfl⟩
      rw [← hX] at hc0
      rw [← hY] at hc1
      have x0 : 0 ≤ X := by omega
      have x1 : X < 256 := by omega
      have y0 : 0 ≤ Y := by omega
      have y1 : Y < 256 := by omega
      have hO := or_u16 X Y x0 x1 y0 y1
      have hV : X + Y * 256 = ((U[k] : Nat) : Int) := by omega
      rw [hV] at hO
      have HO := Go.Lib.hid hO
      have e8 : IntKind.i64.wrap (2 * (k : Int)) = 2 * (k : Int) := IntWalk.i64_in _ (by omega)
      have e9 : IntKind.i64.wrap (2 * (k : Int) + 1) = 2 * (k : Int) + 1 := IntWalk.i64_in _ (by omega)
      clear hs s0 s1 hlen hcell hX hY hV hO hul1
      go_wp2_with (fail)
      go_region
      go_wp2
      go_roundw
      case rel =>
        rw [HO.out]
        exact ⟨k + 1, by omega, by go_num, hr3, hF3.drew⟩
      case measure => simp [intOf]; omega
    · obtain rfl : k = U.length := by omega
      have hr4 : RowK .u16 139 w.heap.size wr (.slice (some ⟨w.heap.size, 0, none⟩) U.length U.length) (units l) := by
        rw [HU.out]
        simpa using hrk
      have HR := Go.Lib.hid hr4
      clear hr4 hrk
      go_wp2_with (fail)
      refine (decodeU_any l hl HG.out _ _ _ w.heap.size _ HR.out).mono ?_
      rintro e w2 ⟨v, rfl, hr5, hF5⟩
      have hs := hr5.bts.text (P := Try.prog) 140 9 21 Try.underlying140 Try.underlying21 Try.underlying9
      go_wp2
      go_ret2
      exact ⟨rfl, hFk.fresh hF5⟩
end Go.Proofs.Ytahcaoenddapoaa
