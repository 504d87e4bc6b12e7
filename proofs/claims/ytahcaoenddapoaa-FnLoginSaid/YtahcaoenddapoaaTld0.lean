/- What a login's payload tells: plain facts. (Printed by gentld.py.) -/
import Derived.Test.YtahcaoenddapoaaFml2
import Derived.Test.YtahcaoenddapoaaNum
import Derived.Test.YtahcaoenddapoaaLawMangle
namespace Go.Proofs.Ytahcaoenddapoaa
open Go.RowKit

/-- The payload's texts, by place. -/
def Lg.tl (x : Lg) (j : Nat) : List Nat := ([ucs (runesOf x.s0), ucs (runesOf x.s1), (ucs (runesOf x.s2)).map mangle, ucs (runesOf x.s3), ucs (runesOf x.s4), [], ucs (runesOf x.s5), ucs (runesOf x.s6), ucs (runesOf x.s7)] : List (List Nat)).getD j []
/-- The number at a place. -/
def numAt (T : List Nat) (p k : Nat) : Nat := leVal ((T.drop p).take k)

/-- T tells the login x. -/
structure Tell (T : List Nat) (x : Lg) : Prop where
  lo : 94 ≤ T.length
  hi : T.length ≤ 2000
  byte : ∀ b ∈ T, b < 256
  total : numAt T 0 4 = T.length
  num : ∀ j (h : j < 5), (numAt T (4 + 4 * j) 4 : Int) = [x.t0, x.t1, x.t2, x.t3, x.t4][j]'h
  flag : ∀ j (h : j < 4), (numAt T (24 + j) 1 : Int) = [x.f1, x.f2, x.f3, x.f4][j]'h
  off : (numAt T 28 4 : Int) = IntKind.u32.wrap x.off
  lcid : (numAt T 32 4 : Int) = x.lcid
  len : ∀ j, j < 9 → 2 * numAt T (38 + 4 * j) 2 = (x.tl j).length
  low : ∀ j, j < 9 → j ≠ 5 → 94 ≤ numAt T (36 + 4 * j) 2
  high : ∀ j, j < 9 → j ≠ 5 → numAt T (36 + 4 * j) 2 + (x.tl j).length ≤ T.length
  text : ∀ j, j < 9 → j ≠ 5 → (T.drop (numAt T (36 + 4 * j) 2)).take (x.tl j).length = x.tl j
  small : ∀ j, j < 9 → (x.tl j).length ≤ 120

theorem seg_head (H R : List Nat) (p k : Nat) (h : p + k ≤ H.length) : ((H ++ R).drop p).take k = (H.drop p).take k := by
  rw [List.drop_append_of_le_length (by omega), List.take_append_of_le_length (by simp; omega)]

theorem leVal_one (n : Nat) (h : n < 256) : leVal (leB n 1) = n := by rw [leVal_leB]; exact Nat.mod_eq_of_lt (by simpa using h)
theorem leVal_two (n : Nat) (h : n < 65536) : leVal (leB n 2) = n := by rw [leVal_leB]; exact Nat.mod_eq_of_lt (by simpa using h)
theorem leVal_four (n : Nat) (h : n < 4294967296) : leVal (leB n 4) = n := by rw [leVal_leB]; exact Nat.mod_eq_of_lt (by simpa using h)

theorem mid_take (P Q R : List Nat) (p k : Nat) (hp : P.length = p) (hk : Q.length = k) : ((P ++ (Q ++ R)).drop p).take k = Q := by
  subst hp
  subst hk
  rw [List.drop_left, List.take_left]

theorem hdrBytes_lt (a : Nat → Nat) : ∀ b ∈ hdrBytes a, b < 256 := by
  intro b hb
  unfold hdrBytes at hb
  simp only [List.mem_append] at hb
  simp only [or_assoc] at hb
  rcases hb with hb | hb
  · cases hb
  repeat (rcases hb with hb | hb; · first | exact leB_lt _ _ b hb | (simp at hb; omega))
  exact leB_lt _ _ b hb
theorem hseg0 (a : Nat → Nat) : ((hdrBytes a).drop 0).take 4 = leB (a 0) 4 := by kernel_rfl
theorem hseg1 (a : Nat → Nat) : ((hdrBytes a).drop 4).take 4 = leB (a 1) 4 := by kernel_rfl
theorem hseg2 (a : Nat → Nat) : ((hdrBytes a).drop 8).take 4 = leB (a 2) 4 := by kernel_rfl
theorem hseg3 (a : Nat → Nat) : ((hdrBytes a).drop 12).take 4 = leB (a 3) 4 := by kernel_rfl
theorem hseg4 (a : Nat → Nat) : ((hdrBytes a).drop 16).take 4 = leB (a 4) 4 := by kernel_rfl
theorem hseg5 (a : Nat → Nat) : ((hdrBytes a).drop 20).take 4 = leB (a 5) 4 := by kernel_rfl
theorem hseg6 (a : Nat → Nat) : ((hdrBytes a).drop 24).take 1 = leB (a 6) 1 := by kernel_rfl
theorem hseg7 (a : Nat → Nat) : ((hdrBytes a).drop 25).take 1 = leB (a 7) 1 := by kernel_rfl
theorem hseg8 (a : Nat → Nat) : ((hdrBytes a).drop 26).take 1 = leB (a 8) 1 := by kernel_rfl
theorem hseg9 (a : Nat → Nat) : ((hdrBytes a).drop 27).take 1 = leB (a 9) 1 := by kernel_rfl
theorem hseg10 (a : Nat → Nat) : ((hdrBytes a).drop 28).take 4 = leB (a 10) 4 := by kernel_rfl
theorem hseg11 (a : Nat → Nat) : ((hdrBytes a).drop 32).take 4 = leB (a 11) 4 := by kernel_rfl
theorem hseg12 (a : Nat → Nat) : ((hdrBytes a).drop 36).take 2 = leB (a 12) 2 := by kernel_rfl
theorem hseg13 (a : Nat → Nat) : ((hdrBytes a).drop 38).take 2 = leB (a 13) 2 := by kernel_rfl
theorem hseg14 (a : Nat → Nat) : ((hdrBytes a).drop 40).take 2 = leB (a 14) 2 := by kernel_rfl
theorem hseg15 (a : Nat → Nat) : ((hdrBytes a).drop 42).take 2 = leB (a 15) 2 := by kernel_rfl
theorem hseg16 (a : Nat → Nat) : ((hdrBytes a).drop 44).take 2 = leB (a 16) 2 := by kernel_rfl
theorem hseg17 (a : Nat → Nat) : ((hdrBytes a).drop 46).take 2 = leB (a 17) 2 := by kernel_rfl
theorem hseg18 (a : Nat → Nat) : ((hdrBytes a).drop 48).take 2 = leB (a 18) 2 := by kernel_rfl
theorem hseg19 (a : Nat → Nat) : ((hdrBytes a).drop 50).take 2 = leB (a 19) 2 := by kernel_rfl
theorem hseg20 (a : Nat → Nat) : ((hdrBytes a).drop 52).take 2 = leB (a 20) 2 := by kernel_rfl
theorem hseg21 (a : Nat → Nat) : ((hdrBytes a).drop 54).take 2 = leB (a 21) 2 := by kernel_rfl
theorem hseg22 (a : Nat → Nat) : ((hdrBytes a).drop 56).take 2 = leB (a 22) 2 := by kernel_rfl
theorem hseg23 (a : Nat → Nat) : ((hdrBytes a).drop 58).take 2 = leB (a 23) 2 := by kernel_rfl
theorem hseg24 (a : Nat → Nat) : ((hdrBytes a).drop 60).take 2 = leB (a 24) 2 := by kernel_rfl
theorem hseg25 (a : Nat → Nat) : ((hdrBytes a).drop 62).take 2 = leB (a 25) 2 := by kernel_rfl
theorem hseg26 (a : Nat → Nat) : ((hdrBytes a).drop 64).take 2 = leB (a 26) 2 := by kernel_rfl
theorem hseg27 (a : Nat → Nat) : ((hdrBytes a).drop 66).take 2 = leB (a 27) 2 := by kernel_rfl
theorem hseg28 (a : Nat → Nat) : ((hdrBytes a).drop 68).take 2 = leB (a 28) 2 := by kernel_rfl
theorem hseg29 (a : Nat → Nat) : ((hdrBytes a).drop 70).take 2 = leB (a 29) 2 := by kernel_rfl

theorem at_head (x : Lg) (p k : Nat) (h : p + k ≤ 94) : numAt x.pay p k = leVal (((hdrBytes (nums x (runesOf x.s0).length (runesOf x.s1).length (runesOf x.s2).length (runesOf x.s3).length (runesOf x.s4).length (runesOf x.s5).length (runesOf x.s6).length (runesOf x.s7).length (ucs (runesOf x.s0)).length (ucs (runesOf x.s1)).length ((ucs (runesOf x.s2)).map mangle).length (ucs (runesOf x.s3)).length (ucs (runesOf x.s4)).length (ucs (runesOf x.s5)).length (ucs (runesOf x.s6)).length (ucs (runesOf x.s7)).length)).drop p).take k) := by
  unfold numAt Lg.pay payB
  simp only [List.append_assoc]
  rw [seg_head _ _ _ _ (by rw [hdrBytes_len]; exact h)]

set_option maxHeartbeats 0 in
theorem tell_pay (x : Lg) (hx : x.proper) (hw : x.wf) : Tell x.pay x := by
  obtain ⟨p1, p2⟩ := pay_len x hx
  have hlen : ∀ s ∈ x.texts, (ucs (runesOf s)).length = 2 * (runesOf s).length ∧ (runesOf s).length ≤ 60 := fun s hs => by
    have h1 := text_few s (hx.1 s hs).1
    have h2 := units_one _ (hx.1 s hs).2
    rw [ucs_length, h2]
    omega
  obtain ⟨e0, k0⟩ := hlen x.s0 (by simp [Lg.texts])
  obtain ⟨e1, k1⟩ := hlen x.s1 (by simp [Lg.texts])
  obtain ⟨e2, k2⟩ := hlen x.s2 (by simp [Lg.texts])
  obtain ⟨e3, k3⟩ := hlen x.s3 (by simp [Lg.texts])
  obtain ⟨e4, k4⟩ := hlen x.s4 (by simp [Lg.texts])
  obtain ⟨e5, k5⟩ := hlen x.s5 (by simp [Lg.texts])
  obtain ⟨e6, k6⟩ := hlen x.s6 (by simp [Lg.texts])
  obtain ⟨e7, k7⟩ := hlen x.s7 (by simp [Lg.texts])
  clear hlen
  have e9 : (ucs (runesOf em)).length = 0 := rfl
  have e10 : ((ucs (runesOf em)).map mangle).length = 0 := rfl
  obtain ⟨_, hf, _, _, _⟩ := hx
  obtain ⟨w0, w1, w2, w3, w4, w5⟩ := hw
  have g1 := hf x.f1 (by simp)
  have g2 := hf x.f2 (by simp)
  have g3 := hf x.f3 (by simp)
  have g4 := hf x.f4 (by simp)
  clear hf
  have hT : x.pay.length = nums x (runesOf x.s0).length (runesOf x.s1).length (runesOf x.s2).length (runesOf x.s3).length (runesOf x.s4).length (runesOf x.s5).length (runesOf x.s6).length (runesOf x.s7).length (ucs (runesOf x.s0)).length (ucs (runesOf x.s1)).length ((ucs (runesOf x.s2)).map mangle).length (ucs (runesOf x.s3)).length (ucs (runesOf x.s4)).length (ucs (runesOf x.s5)).length (ucs (runesOf x.s6)).length (ucs (runesOf x.s7)).length 0 := by
    unfold Lg.pay payB
    simp only [List.length_append, hdrBytes_len, List.length_nil]
    show _ = 94 + (ucs (runesOf x.s0)).length + (ucs (runesOf x.s1)).length + ((ucs (runesOf x.s2)).map mangle).length + (ucs (runesOf x.s3)).length + (ucs (runesOf x.s4)).length + (ucs (runesOf x.s5)).length + (ucs (runesOf x.s6)).length + (ucs (runesOf x.s7)).length
    omega
  have hz : 0 ≤ IntKind.u32.wrap x.off ∧ IntKind.u32.wrap x.off < 4294967296 := by rw [IntKind.wrap_u32]; omega
  obtain ⟨a, ha⟩ : ∃ a, a = nums x (runesOf x.s0).length (runesOf x.s1).length (runesOf x.s2).length (runesOf x.s3).length (runesOf x.s4).length (runesOf x.s5).length (runesOf x.s6).length (runesOf x.s7).length (ucs (runesOf x.s0)).length (ucs (runesOf x.s1)).length ((ucs (runesOf x.s2)).map mangle).length (ucs (runesOf x.s3)).length (ucs (runesOf x.s4)).length (ucs (runesOf x.s5)).length (ucs (runesOf x.s6)).length (ucs (runesOf x.s7)).length := ⟨_, rfl⟩
  have hat : ∀ p k, p + k ≤ 94 → numAt x.pay p k = leVal (((hdrBytes a).drop p).take k) := fun p k h => by rw [ha]; exact at_head x p k h
  rw [← ha] at hT
  have v1 : numAt x.pay 4 4 = x.t0.toNat := by
    rw [hat 4 4 (by omega), hseg1, leVal_four _ (by rw [ha]; show x.t0.toNat < _; (try simp only [List.length_map]); omega), ha]
    rfl
  have v2 : numAt x.pay 8 4 = x.t1.toNat := by
    rw [hat 8 4 (by omega), hseg2, leVal_four _ (by rw [ha]; show x.t1.toNat < _; (try simp only [List.length_map]); omega), ha]
    rfl
  have v3 : numAt x.pay 12 4 = x.t2.toNat := by
    rw [hat 12 4 (by omega), hseg3, leVal_four _ (by rw [ha]; show x.t2.toNat < _; (try simp only [List.length_map]); omega), ha]
    rfl
  have v4 : numAt x.pay 16 4 = x.t3.toNat := by
    rw [hat 16 4 (by omega), hseg4, leVal_four _ (by rw [ha]; show x.t3.toNat < _; (try simp only [List.length_map]); omega), ha]
    rfl
  have v5 : numAt x.pay 20 4 = x.t4.toNat := by
    rw [hat 20 4 (by omega), hseg5, leVal_four _ (by rw [ha]; show x.t4.toNat < _; (try simp only [List.length_map]); omega), ha]
    rfl
  have v6 : numAt x.pay 24 1 = x.f1.toNat := by
    rw [hat 24 1 (by omega), hseg6, leVal_one _ (by rw [ha]; show x.f1.toNat < _; (try simp only [List.length_map]); omega), ha]
    rfl
  have v7 : numAt x.pay 25 1 = x.f2.toNat := by
    rw [hat 25 1 (by omega), hseg7, leVal_one _ (by rw [ha]; show x.f2.toNat < _; (try simp only [List.length_map]); omega), ha]
    rfl
  have v8 : numAt x.pay 26 1 = x.f3.toNat := by
    rw [hat 26 1 (by omega), hseg8, leVal_one _ (by rw [ha]; show x.f3.toNat < _; (try simp only [List.length_map]); omega), ha]
    rfl
  have v9 : numAt x.pay 27 1 = x.f4.toNat := by
    rw [hat 27 1 (by omega), hseg9, leVal_one _ (by rw [ha]; show x.f4.toNat < _; (try simp only [List.length_map]); omega), ha]
    rfl
  have v10 : numAt x.pay 28 4 = (IntKind.u32.wrap x.off).toNat := by
    rw [hat 28 4 (by omega), hseg10, leVal_four _ (by rw [ha]; show (IntKind.u32.wrap x.off).toNat < _; (try simp only [List.length_map]); omega), ha]
    rfl
  have v11 : numAt x.pay 32 4 = x.lcid.toNat := by
    rw [hat 32 4 (by omega), hseg11, leVal_four _ (by rw [ha]; show x.lcid.toNat < _; (try simp only [List.length_map]); omega), ha]
    rfl
  have v12 : numAt x.pay 36 2 = 94 := by
    rw [hat 36 2 (by omega), hseg12, leVal_two _ (by rw [ha]; show 94 < _; (try simp only [List.length_map]); omega), ha]
    rfl
  have v13 : numAt x.pay 38 2 = (runesOf x.s0).length := by
    rw [hat 38 2 (by omega), hseg13, leVal_two _ (by rw [ha]; show (runesOf x.s0).length < _; (try simp only [List.length_map]); omega), ha]
    rfl
  have v14 : numAt x.pay 40 2 = 94 + (ucs (runesOf x.s0)).length := by
    rw [hat 40 2 (by omega), hseg14, leVal_two _ (by rw [ha]; show 94 + (ucs (runesOf x.s0)).length < _; (try simp only [List.length_map]); omega), ha]
    rfl
  have v15 : numAt x.pay 42 2 = (runesOf x.s1).length := by
    rw [hat 42 2 (by omega), hseg15, leVal_two _ (by rw [ha]; show (runesOf x.s1).length < _; (try simp only [List.length_map]); omega), ha]
    rfl
  have v16 : numAt x.pay 44 2 = 94 + (ucs (runesOf x.s0)).length + (ucs (runesOf x.s1)).length := by
    rw [hat 44 2 (by omega), hseg16, leVal_two _ (by rw [ha]; show 94 + (ucs (runesOf x.s0)).length + (ucs (runesOf x.s1)).length < _; (try simp only [List.length_map]); omega), ha]
    rfl
  have v17 : numAt x.pay 46 2 = (runesOf x.s2).length := by
    rw [hat 46 2 (by omega), hseg17, leVal_two _ (by rw [ha]; show (runesOf x.s2).length < _; (try simp only [List.length_map]); omega), ha]
    rfl
  have v18 : numAt x.pay 48 2 = 94 + (ucs (runesOf x.s0)).length + (ucs (runesOf x.s1)).length + ((ucs (runesOf x.s2)).map mangle).length := by
    rw [hat 48 2 (by omega), hseg18, leVal_two _ (by rw [ha]; show 94 + (ucs (runesOf x.s0)).length + (ucs (runesOf x.s1)).length + ((ucs (runesOf x.s2)).map mangle).length < _; (try simp only [List.length_map]); omega), ha]
    rfl
  have v19 : numAt x.pay 50 2 = (runesOf x.s3).length := by
    rw [hat 50 2 (by omega), hseg19, leVal_two _ (by rw [ha]; show (runesOf x.s3).length < _; (try simp only [List.length_map]); omega), ha]
    rfl
  have v20 : numAt x.pay 52 2 = 94 + (ucs (runesOf x.s0)).length + (ucs (runesOf x.s1)).length + ((ucs (runesOf x.s2)).map mangle).length + (ucs (runesOf x.s3)).length := by
    rw [hat 52 2 (by omega), hseg20, leVal_two _ (by rw [ha]; show 94 + (ucs (runesOf x.s0)).length + (ucs (runesOf x.s1)).length + ((ucs (runesOf x.s2)).map mangle).length + (ucs (runesOf x.s3)).length < _; (try simp only [List.length_map]); omega), ha]
    rfl
  have v21 : numAt x.pay 54 2 = (runesOf x.s4).length := by
    rw [hat 54 2 (by omega), hseg21, leVal_two _ (by rw [ha]; show (runesOf x.s4).length < _; (try simp only [List.length_map]); omega), ha]
    rfl
  have v22 : numAt x.pay 56 2 = 0 := by
    rw [hat 56 2 (by omega), hseg22, leVal_two _ (by rw [ha]; show 0 < _; (try simp only [List.length_map]); omega), ha]
    rfl
  have v23 : numAt x.pay 58 2 = 0 := by
    rw [hat 58 2 (by omega), hseg23, leVal_two _ (by rw [ha]; show 0 < _; (try simp only [List.length_map]); omega), ha]
    rfl
  have v24 : numAt x.pay 60 2 = 94 + (ucs (runesOf x.s0)).length + (ucs (runesOf x.s1)).length + ((ucs (runesOf x.s2)).map mangle).length + (ucs (runesOf x.s3)).length + (ucs (runesOf x.s4)).length := by
    rw [hat 60 2 (by omega), hseg24, leVal_two _ (by rw [ha]; show 94 + (ucs (runesOf x.s0)).length + (ucs (runesOf x.s1)).length + ((ucs (runesOf x.s2)).map mangle).length + (ucs (runesOf x.s3)).length + (ucs (runesOf x.s4)).length < _; (try simp only [List.length_map]); omega), ha]
    rfl
  have v25 : numAt x.pay 62 2 = (runesOf x.s5).length := by
    rw [hat 62 2 (by omega), hseg25, leVal_two _ (by rw [ha]; show (runesOf x.s5).length < _; (try simp only [List.length_map]); omega), ha]
    rfl
  have v26 : numAt x.pay 64 2 = 94 + (ucs (runesOf x.s0)).length + (ucs (runesOf x.s1)).length + ((ucs (runesOf x.s2)).map mangle).length + (ucs (runesOf x.s3)).length + (ucs (runesOf x.s4)).length + (ucs (runesOf x.s5)).length := by
    rw [hat 64 2 (by omega), hseg26, leVal_two _ (by rw [ha]; show 94 + (ucs (runesOf x.s0)).length + (ucs (runesOf x.s1)).length + ((ucs (runesOf x.s2)).map mangle).length + (ucs (runesOf x.s3)).length + (ucs (runesOf x.s4)).length + (ucs (runesOf x.s5)).length < _; (try simp only [List.length_map]); omega), ha]
    rfl
  have v27 : numAt x.pay 66 2 = (runesOf x.s6).length := by
    rw [hat 66 2 (by omega), hseg27, leVal_two _ (by rw [ha]; show (runesOf x.s6).length < _; (try simp only [List.length_map]); omega), ha]
    rfl
  have v28 : numAt x.pay 68 2 = 94 + (ucs (runesOf x.s0)).length + (ucs (runesOf x.s1)).length + ((ucs (runesOf x.s2)).map mangle).length + (ucs (runesOf x.s3)).length + (ucs (runesOf x.s4)).length + (ucs (runesOf x.s5)).length + (ucs (runesOf x.s6)).length := by
    rw [hat 68 2 (by omega), hseg28, leVal_two _ (by rw [ha]; show 94 + (ucs (runesOf x.s0)).length + (ucs (runesOf x.s1)).length + ((ucs (runesOf x.s2)).map mangle).length + (ucs (runesOf x.s3)).length + (ucs (runesOf x.s4)).length + (ucs (runesOf x.s5)).length + (ucs (runesOf x.s6)).length < _; (try simp only [List.length_map]); omega), ha]
    rfl
  have v29 : numAt x.pay 70 2 = (runesOf x.s7).length := by
    rw [hat 70 2 (by omega), hseg29, leVal_two _ (by rw [ha]; show (runesOf x.s7).length < _; (try simp only [List.length_map]); omega), ha]
    rfl
  have v0 : numAt x.pay 0 4 = x.pay.length := by
    rw [hat 0 4 (by omega), hseg0, leVal_four _ (by omega), hT]
  have hTT : x.pay.length = 94 + (ucs (runesOf x.s0)).length + (ucs (runesOf x.s1)).length + ((ucs (runesOf x.s2)).map mangle).length + (ucs (runesOf x.s3)).length + (ucs (runesOf x.s4)).length + (ucs (runesOf x.s5)).length + (ucs (runesOf x.s6)).length + (ucs (runesOf x.s7)).length := by rw [hT, ha]; rfl
  clear hat ha hT
  have mm : ((ucs (runesOf x.s2)).map mangle).length = (ucs (runesOf x.s2)).length := List.length_map _
  have x0 : (x.pay.drop (94)).take (ucs (runesOf x.s0)).length = (ucs (runesOf x.s0)) := by
    have e : x.pay = ((hdrBytes (nums x (runesOf x.s0).length (runesOf x.s1).length (runesOf x.s2).length (runesOf x.s3).length (runesOf x.s4).length (runesOf x.s5).length (runesOf x.s6).length (runesOf x.s7).length (ucs (runesOf x.s0)).length (ucs (runesOf x.s1)).length ((ucs (runesOf x.s2)).map mangle).length (ucs (runesOf x.s3)).length (ucs (runesOf x.s4)).length (ucs (runesOf x.s5)).length (ucs (runesOf x.s6)).length (ucs (runesOf x.s7)).length))) ++ ((ucs (runesOf x.s0)) ++ ((ucs (runesOf x.s1)) ++ (((ucs (runesOf x.s2)).map mangle) ++ ((ucs (runesOf x.s3)) ++ ((ucs (runesOf x.s4)) ++ ((ucs (runesOf x.s5)) ++ ((ucs (runesOf x.s6)) ++ ((ucs (runesOf x.s7)) ++ ([] ++ (ucs (runesOf em) ++ ((ucs (runesOf em)).map mangle))))))))))) := by
      unfold Lg.pay payB
      simp only [List.append_assoc]
    rw [e]
    exact mid_take _ _ _ _ _ (by simp only [hdrBytes_len]) rfl
  have x1 : (x.pay.drop (94 + (ucs (runesOf x.s0)).length)).take (ucs (runesOf x.s1)).length = (ucs (runesOf x.s1)) := by
    have e : x.pay = ((hdrBytes (nums x (runesOf x.s0).length (runesOf x.s1).length (runesOf x.s2).length (runesOf x.s3).length (runesOf x.s4).length (runesOf x.s5).length (runesOf x.s6).length (runesOf x.s7).length (ucs (runesOf x.s0)).length (ucs (runesOf x.s1)).length ((ucs (runesOf x.s2)).map mangle).length (ucs (runesOf x.s3)).length (ucs (runesOf x.s4)).length (ucs (runesOf x.s5)).length (ucs (runesOf x.s6)).length (ucs (runesOf x.s7)).length)) ++ (ucs (runesOf x.s0))) ++ ((ucs (runesOf x.s1)) ++ (((ucs (runesOf x.s2)).map mangle) ++ ((ucs (runesOf x.s3)) ++ ((ucs (runesOf x.s4)) ++ ((ucs (runesOf x.s5)) ++ ((ucs (runesOf x.s6)) ++ ((ucs (runesOf x.s7)) ++ ([] ++ (ucs (runesOf em) ++ ((ucs (runesOf em)).map mangle)))))))))) := by
      unfold Lg.pay payB
      simp only [List.append_assoc]
    rw [e]
    exact mid_take _ _ _ _ _ (by simp only [List.length_append, hdrBytes_len]) rfl
  have x2 : (x.pay.drop (94 + (ucs (runesOf x.s0)).length + (ucs (runesOf x.s1)).length)).take ((ucs (runesOf x.s2)).map mangle).length = ((ucs (runesOf x.s2)).map mangle) := by
    have e : x.pay = ((hdrBytes (nums x (runesOf x.s0).length (runesOf x.s1).length (runesOf x.s2).length (runesOf x.s3).length (runesOf x.s4).length (runesOf x.s5).length (runesOf x.s6).length (runesOf x.s7).length (ucs (runesOf x.s0)).length (ucs (runesOf x.s1)).length ((ucs (runesOf x.s2)).map mangle).length (ucs (runesOf x.s3)).length (ucs (runesOf x.s4)).length (ucs (runesOf x.s5)).length (ucs (runesOf x.s6)).length (ucs (runesOf x.s7)).length)) ++ (ucs (runesOf x.s0)) ++ (ucs (runesOf x.s1))) ++ (((ucs (runesOf x.s2)).map mangle) ++ ((ucs (runesOf x.s3)) ++ ((ucs (runesOf x.s4)) ++ ((ucs (runesOf x.s5)) ++ ((ucs (runesOf x.s6)) ++ ((ucs (runesOf x.s7)) ++ ([] ++ (ucs (runesOf em) ++ ((ucs (runesOf em)).map mangle))))))))) := by
      unfold Lg.pay payB
      simp only [List.append_assoc]
    rw [e]
    exact mid_take _ _ _ _ _ (by simp only [List.length_append, hdrBytes_len]) rfl
  have x3 : (x.pay.drop (94 + (ucs (runesOf x.s0)).length + (ucs (runesOf x.s1)).length + ((ucs (runesOf x.s2)).map mangle).length)).take (ucs (runesOf x.s3)).length = (ucs (runesOf x.s3)) := by
    have e : x.pay = ((hdrBytes (nums x (runesOf x.s0).length (runesOf x.s1).length (runesOf x.s2).length (runesOf x.s3).length (runesOf x.s4).length (runesOf x.s5).length (runesOf x.s6).length (runesOf x.s7).length (ucs (runesOf x.s0)).length (ucs (runesOf x.s1)).length ((ucs (runesOf x.s2)).map mangle).length (ucs (runesOf x.s3)).length (ucs (runesOf x.s4)).length (ucs (runesOf x.s5)).length (ucs (runesOf x.s6)).length (ucs (runesOf x.s7)).length)) ++ (ucs (runesOf x.s0)) ++ (ucs (runesOf x.s1)) ++ ((ucs (runesOf x.s2)).map mangle)) ++ ((ucs (runesOf x.s3)) ++ ((ucs (runesOf x.s4)) ++ ((ucs (runesOf x.s5)) ++ ((ucs (runesOf x.s6)) ++ ((ucs (runesOf x.s7)) ++ ([] ++ (ucs (runesOf em) ++ ((ucs (runesOf em)).map mangle)))))))) := by
      unfold Lg.pay payB
      simp only [List.append_assoc]
    rw [e]
    exact mid_take _ _ _ _ _ (by simp only [List.length_append, hdrBytes_len]) rfl
  have x4 : (x.pay.drop (94 + (ucs (runesOf x.s0)).length + (ucs (runesOf x.s1)).length + ((ucs (runesOf x.s2)).map mangle).length + (ucs (runesOf x.s3)).length)).take (ucs (runesOf x.s4)).length = (ucs (runesOf x.s4)) := by
    have e : x.pay = ((hdrBytes (nums x (runesOf x.s0).length (runesOf x.s1).length (runesOf x.s2).length (runesOf x.s3).length (runesOf x.s4).length (runesOf x.s5).length (runesOf x.s6).length (runesOf x.s7).length (ucs (runesOf x.s0)).length (ucs (runesOf x.s1)).length ((ucs (runesOf x.s2)).map mangle).length (ucs (runesOf x.s3)).length (ucs (runesOf x.s4)).length (ucs (runesOf x.s5)).length (ucs (runesOf x.s6)).length (ucs (runesOf x.s7)).length)) ++ (ucs (runesOf x.s0)) ++ (ucs (runesOf x.s1)) ++ ((ucs (runesOf x.s2)).map mangle) ++ (ucs (runesOf x.s3))) ++ ((ucs (runesOf x.s4)) ++ ((ucs (runesOf x.s5)) ++ ((ucs (runesOf x.s6)) ++ ((ucs (runesOf x.s7)) ++ ([] ++ (ucs (runesOf em) ++ ((ucs (runesOf em)).map mangle))))))) := by
      unfold Lg.pay payB
      simp only [List.append_assoc]
    rw [e]
    exact mid_take _ _ _ _ _ (by simp only [List.length_append, hdrBytes_len]) rfl
  have x6 : (x.pay.drop (94 + (ucs (runesOf x.s0)).length + (ucs (runesOf x.s1)).length + ((ucs (runesOf x.s2)).map mangle).length + (ucs (runesOf x.s3)).length + (ucs (runesOf x.s4)).length)).take (ucs (runesOf x.s5)).length = (ucs (runesOf x.s5)) := by
    have e : x.pay = ((hdrBytes (nums x (runesOf x.s0).length (runesOf x.s1).length (runesOf x.s2).length (runesOf x.s3).length (runesOf x.s4).length (runesOf x.s5).length (runesOf x.s6).length (runesOf x.s7).length (ucs (runesOf x.s0)).length (ucs (runesOf x.s1)).length ((ucs (runesOf x.s2)).map mangle).length (ucs (runesOf x.s3)).length (ucs (runesOf x.s4)).length (ucs (runesOf x.s5)).length (ucs (runesOf x.s6)).length (ucs (runesOf x.s7)).length)) ++ (ucs (runesOf x.s0)) ++ (ucs (runesOf x.s1)) ++ ((ucs (runesOf x.s2)).map mangle) ++ (ucs (runesOf x.s3)) ++ (ucs (runesOf x.s4))) ++ ((ucs (runesOf x.s5)) ++ ((ucs (runesOf x.s6)) ++ ((ucs (runesOf x.s7)) ++ ([] ++ (ucs (runesOf em) ++ ((ucs (runesOf em)).map mangle)))))) := by
      unfold Lg.pay payB
      simp only [List.append_assoc]
    rw [e]
    exact mid_take _ _ _ _ _ (by simp only [List.length_append, hdrBytes_len]) rfl
  have x7 : (x.pay.drop (94 + (ucs (runesOf x.s0)).length + (ucs (runesOf x.s1)).length + ((ucs (runesOf x.s2)).map mangle).length + (ucs (runesOf x.s3)).length + (ucs (runesOf x.s4)).length + (ucs (runesOf x.s5)).length)).take (ucs (runesOf x.s6)).length = (ucs (runesOf x.s6)) := by
    have e : x.pay = ((hdrBytes (nums x (runesOf x.s0).length (runesOf x.s1).length (runesOf x.s2).length (runesOf x.s3).length (runesOf x.s4).length (runesOf x.s5).length (runesOf x.s6).length (runesOf x.s7).length (ucs (runesOf x.s0)).length (ucs (runesOf x.s1)).length ((ucs (runesOf x.s2)).map mangle).length (ucs (runesOf x.s3)).length (ucs (runesOf x.s4)).length (ucs (runesOf x.s5)).length (ucs (runesOf x.s6)).length (ucs (runesOf x.s7)).length)) ++ (ucs (runesOf x.s0)) ++ (ucs (runesOf x.s1)) ++ ((ucs (runesOf x.s2)).map mangle) ++ (ucs (runesOf x.s3)) ++ (ucs (runesOf x.s4)) ++ (ucs (runesOf x.s5))) ++ ((ucs (runesOf x.s6)) ++ ((ucs (runesOf x.s7)) ++ ([] ++ (ucs (runesOf em) ++ ((ucs (runesOf em)).map mangle))))) := by
      unfold Lg.pay payB
      simp only [List.append_assoc]
    rw [e]
    exact mid_take _ _ _ _ _ (by simp only [List.length_append, hdrBytes_len]) rfl
  have x8 : (x.pay.drop (94 + (ucs (runesOf x.s0)).length + (ucs (runesOf x.s1)).length + ((ucs (runesOf x.s2)).map mangle).length + (ucs (runesOf x.s3)).length + (ucs (runesOf x.s4)).length + (ucs (runesOf x.s5)).length + (ucs (runesOf x.s6)).length)).take (ucs (runesOf x.s7)).length = (ucs (runesOf x.s7)) := by
    have e : x.pay = ((hdrBytes (nums x (runesOf x.s0).length (runesOf x.s1).length (runesOf x.s2).length (runesOf x.s3).length (runesOf x.s4).length (runesOf x.s5).length (runesOf x.s6).length (runesOf x.s7).length (ucs (runesOf x.s0)).length (ucs (runesOf x.s1)).length ((ucs (runesOf x.s2)).map mangle).length (ucs (runesOf x.s3)).length (ucs (runesOf x.s4)).length (ucs (runesOf x.s5)).length (ucs (runesOf x.s6)).length (ucs (runesOf x.s7)).length)) ++ (ucs (runesOf x.s0)) ++ (ucs (runesOf x.s1)) ++ ((ucs (runesOf x.s2)).map mangle) ++ (ucs (runesOf x.s3)) ++ (ucs (runesOf x.s4)) ++ (ucs (runesOf x.s5)) ++ (ucs (runesOf x.s6))) ++ ((ucs (runesOf x.s7)) ++ ([] ++ (ucs (runesOf em) ++ ((ucs (runesOf em)).map mangle)))) := by
      unfold Lg.pay payB
      simp only [List.append_assoc]
    rw [e]
    exact mid_take _ _ _ _ _ (by simp only [List.length_append, hdrBytes_len]) rfl
  have hb : ∀ b ∈ x.pay, b < 256 := by
    intro b hb
    unfold Lg.pay payB at hb
    simp only [List.mem_append] at hb
    simp only [or_assoc] at hb
    rcases hb with hb | hb
    · exact hdrBytes_lt _ b hb
    have hm : ∀ l : List Nat, (∀ b ∈ l, b < 256) → ∀ b ∈ l.map mangle, b < 256 := fun l hl => mangle_lts hl
    repeat (rcases hb with hb | hb; · first | exact ucs_lt _ b hb | exact hm _ (ucs_lt _) b hb | cases hb)
    exact hm _ (ucs_lt _) b hb
  refine ⟨p1, p2, hb, v0, ?_, ?_, ?_, ?_, ?_, ?_, ?_, ?_, ?_⟩
  · intro j hj
    match j, hj with
    | 0, _ => show (numAt x.pay 4 4 : Int) = x.t0; rw [v1]; omega
    | 1, _ => show (numAt x.pay 8 4 : Int) = x.t1; rw [v2]; omega
    | 2, _ => show (numAt x.pay 12 4 : Int) = x.t2; rw [v3]; omega
    | 3, _ => show (numAt x.pay 16 4 : Int) = x.t3; rw [v4]; omega
    | 4, _ => show (numAt x.pay 20 4 : Int) = x.t4; rw [v5]; omega
    | j + 5, h => omega
  · intro j hj
    match j, hj with
    | 0, _ => show (numAt x.pay 24 1 : Int) = x.f1; rw [v6]; omega
    | 1, _ => show (numAt x.pay 25 1 : Int) = x.f2; rw [v7]; omega
    | 2, _ => show (numAt x.pay 26 1 : Int) = x.f3; rw [v8]; omega
    | 3, _ => show (numAt x.pay 27 1 : Int) = x.f4; rw [v9]; omega
    | j + 4, h => omega
  · rw [v10]; omega
  · rw [v11]; omega
  · intro j hj
    match j, hj with
    | 0, _ => show 2 * numAt x.pay 38 2 = ((ucs (runesOf x.s0)) : List Nat).length; rw [v13]; (try simp only [List.length_nil]); (try omega)
    | 1, _ => show 2 * numAt x.pay 42 2 = ((ucs (runesOf x.s1)) : List Nat).length; rw [v15]; (try simp only [List.length_nil]); (try omega)
    | 2, _ => show 2 * numAt x.pay 46 2 = (((ucs (runesOf x.s2)).map mangle) : List Nat).length; rw [v17]; (try simp only [List.length_nil]); (try omega)
    | 3, _ => show 2 * numAt x.pay 50 2 = ((ucs (runesOf x.s3)) : List Nat).length; rw [v19]; (try simp only [List.length_nil]); (try omega)
    | 4, _ => show 2 * numAt x.pay 54 2 = ((ucs (runesOf x.s4)) : List Nat).length; rw [v21]; (try simp only [List.length_nil]); (try omega)
    | 5, _ => show 2 * numAt x.pay 58 2 = ([] : List Nat).length; rw [v23]; (try simp only [List.length_nil]); (try omega)
    | 6, _ => show 2 * numAt x.pay 62 2 = ((ucs (runesOf x.s5)) : List Nat).length; rw [v25]; (try simp only [List.length_nil]); (try omega)
    | 7, _ => show 2 * numAt x.pay 66 2 = ((ucs (runesOf x.s6)) : List Nat).length; rw [v27]; (try simp only [List.length_nil]); (try omega)
    | 8, _ => show 2 * numAt x.pay 70 2 = ((ucs (runesOf x.s7)) : List Nat).length; rw [v29]; (try simp only [List.length_nil]); (try omega)
    | j + 9, h => omega
  · intro j hj h5
    match j, hj, h5 with
    | 0, _, h5 => show 94 ≤ numAt x.pay 36 2; rw [v12]; omega
    | 1, _, h5 => show 94 ≤ numAt x.pay 40 2; rw [v14]; omega
    | 2, _, h5 => show 94 ≤ numAt x.pay 44 2; rw [v16]; omega
    | 3, _, h5 => show 94 ≤ numAt x.pay 48 2; rw [v18]; omega
    | 4, _, h5 => show 94 ≤ numAt x.pay 52 2; rw [v20]; omega
    | 5, _, h5 => exact absurd rfl h5
    | 6, _, h5 => show 94 ≤ numAt x.pay 60 2; rw [v24]; omega
    | 7, _, h5 => show 94 ≤ numAt x.pay 64 2; rw [v26]; omega
    | 8, _, h5 => show 94 ≤ numAt x.pay 68 2; rw [v28]; omega
    | j + 9, h, _ => omega
  · intro j hj h5
    match j, hj, h5 with
    | 0, _, h5 => show numAt x.pay 36 2 + (ucs (runesOf x.s0)).length ≤ x.pay.length; rw [v12, hTT]; omega
    | 1, _, h5 => show numAt x.pay 40 2 + (ucs (runesOf x.s1)).length ≤ x.pay.length; rw [v14, hTT]; omega
    | 2, _, h5 => show numAt x.pay 44 2 + ((ucs (runesOf x.s2)).map mangle).length ≤ x.pay.length; rw [v16, hTT]; omega
    | 3, _, h5 => show numAt x.pay 48 2 + (ucs (runesOf x.s3)).length ≤ x.pay.length; rw [v18, hTT]; omega
    | 4, _, h5 => show numAt x.pay 52 2 + (ucs (runesOf x.s4)).length ≤ x.pay.length; rw [v20, hTT]; omega
    | 5, _, h5 => exact absurd rfl h5
    | 6, _, h5 => show numAt x.pay 60 2 + (ucs (runesOf x.s5)).length ≤ x.pay.length; rw [v24, hTT]; omega
    | 7, _, h5 => show numAt x.pay 64 2 + (ucs (runesOf x.s6)).length ≤ x.pay.length; rw [v26, hTT]; omega
    | 8, _, h5 => show numAt x.pay 68 2 + (ucs (runesOf x.s7)).length ≤ x.pay.length; rw [v28, hTT]; omega
    | j + 9, h, _ => omega
  · intro j hj h5
    match j, hj, h5 with
    | 0, _, h5 => show (x.pay.drop (numAt x.pay 36 2)).take (ucs (runesOf x.s0)).length = (ucs (runesOf x.s0)); rw [v12]; exact x0
    | 1, _, h5 => show (x.pay.drop (numAt x.pay 40 2)).take (ucs (runesOf x.s1)).length = (ucs (runesOf x.s1)); rw [v14]; exact x1
    | 2, _, h5 => show (x.pay.drop (numAt x.pay 44 2)).take ((ucs (runesOf x.s2)).map mangle).length = ((ucs (runesOf x.s2)).map mangle); rw [v16]; exact x2
    | 3, _, h5 => show (x.pay.drop (numAt x.pay 48 2)).take (ucs (runesOf x.s3)).length = (ucs (runesOf x.s3)); rw [v18]; exact x3
    | 4, _, h5 => show (x.pay.drop (numAt x.pay 52 2)).take (ucs (runesOf x.s4)).length = (ucs (runesOf x.s4)); rw [v20]; exact x4
    | 5, _, h5 => exact absurd rfl h5
    | 6, _, h5 => show (x.pay.drop (numAt x.pay 60 2)).take (ucs (runesOf x.s5)).length = (ucs (runesOf x.s5)); rw [v24]; exact x6
    | 7, _, h5 => show (x.pay.drop (numAt x.pay 64 2)).take (ucs (runesOf x.s6)).length = (ucs (runesOf x.s6)); rw [v26]; exact x7
    | 8, _, h5 => show (x.pay.drop (numAt x.pay 68 2)).take (ucs (runesOf x.s7)).length = (ucs (runesOf x.s7)); rw [v28]; exact x8
    | j + 9, h, _ => omega
  · intro j hj
    match j, hj with
    | 0, _ => show ((ucs (runesOf x.s0)) : List Nat).length ≤ 120; (try simp only [List.length_nil]); omega
    | 1, _ => show ((ucs (runesOf x.s1)) : List Nat).length ≤ 120; (try simp only [List.length_nil]); omega
    | 2, _ => show (((ucs (runesOf x.s2)).map mangle) : List Nat).length ≤ 120; (try simp only [List.length_nil]); omega
    | 3, _ => show ((ucs (runesOf x.s3)) : List Nat).length ≤ 120; (try simp only [List.length_nil]); omega
    | 4, _ => show ((ucs (runesOf x.s4)) : List Nat).length ≤ 120; (try simp only [List.length_nil]); omega
    | 5, _ => show ([] : List Nat).length ≤ 120; (try simp only [List.length_nil]); omega
    | 6, _ => show ((ucs (runesOf x.s5)) : List Nat).length ≤ 120; (try simp only [List.length_nil]); omega
    | 7, _ => show ((ucs (runesOf x.s6)) : List Nat).length ≤ 120; (try simp only [List.length_nil]); omega
    | 8, _ => show ((ucs (runesOf x.s7)) : List Nat).length ≤ 120; (try simp only [List.length_nil]); omega
    | j + 9, h => omega
end Go.Proofs.Ytahcaoenddapoaa
