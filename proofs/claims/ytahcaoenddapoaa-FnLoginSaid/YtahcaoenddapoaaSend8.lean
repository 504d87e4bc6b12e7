/- sendLogin. (Printed by gen83i.py.) -/
import Derived.Test.YtahcaoenddapoaaSn1
import Derived.Test.YtahcaoenddapoaaImplPk
import Derived.Deep.DeepCutAuto
namespace Go.Proofs.Ytahcaoenddapoaa
open Go.RowKit

set_option maxRecDepth 100000 in
set_option maxHeartbeats 0 in
theorem sendLogin_any (base g hb bb C lb : Nat) (v : Value) (x : Lg) (hx : x.proper) (hwf : x.wf) (hf : x.fits) (w : World) (hN : New w base g hb bb 32767 C v []) (hL : Lgn lb x w) (hlb : lb < base) (hbase : base ≤ w.heap.size) :
    Calls Try.prog 83 #[.pointer (some ⟨g, 0, none⟩), .pointer (some ⟨lb, 0, none⟩)] w fun e w' => e = .returned .nilIface ∧ Sent w w' base g hb bb C x.pay := by
  have hc1 := hN.c1
  have hc2 := hN.c2
  have hemp : em.size ≤ 4294967296 := by decide
  obtain ⟨z0, z1, z2, z3, z4, z5, z6, z7⟩ := hf
  have HX := Go.Lib.hid hx
  have HWF := Go.Lib.hid hwf
  have HN := Go.Lib.hid hN
  have HL := Go.Lib.hid hL
  clear hN hx hwf
  obtain ⟨m0, hm0⟩ : ∃ m, (runesOf x.s0).length = m := ⟨_, rfl⟩
  have hn0 : (m0 : Int) ≤ 60 := by have := text_few x.s0 (HX.out.1 x.s0 (by simp [Lg.texts])).1; omega
  have hk0 : Cnt x.s0 m0 := ⟨hm0, by omega, hn0⟩
  clear hm0
  obtain ⟨m1, hm1⟩ : ∃ m, (runesOf x.s1).length = m := ⟨_, rfl⟩
  have hn1 : (m1 : Int) ≤ 60 := by have := text_few x.s1 (HX.out.1 x.s1 (by simp [Lg.texts])).1; omega
  have hk1 : Cnt x.s1 m1 := ⟨hm1, by omega, hn1⟩
  clear hm1
  obtain ⟨m2, hm2⟩ : ∃ m, (runesOf x.s2).length = m := ⟨_, rfl⟩
  have hn2 : (m2 : Int) ≤ 60 := by have := text_few x.s2 (HX.out.1 x.s2 (by simp [Lg.texts])).1; omega
  have hk2 : Cnt x.s2 m2 := ⟨hm2, by omega, hn2⟩
  clear hm2
  obtain ⟨m3, hm3⟩ : ∃ m, (runesOf x.s3).length = m := ⟨_, rfl⟩
  have hn3 : (m3 : Int) ≤ 60 := by have := text_few x.s3 (HX.out.1 x.s3 (by simp [Lg.texts])).1; omega
  have hk3 : Cnt x.s3 m3 := ⟨hm3, by omega, hn3⟩
  clear hm3
  obtain ⟨m4, hm4⟩ : ∃ m, (runesOf x.s4).length = m := ⟨_, rfl⟩
  have hn4 : (m4 : Int) ≤ 60 := by have := text_few x.s4 (HX.out.1 x.s4 (by simp [Lg.texts])).1; omega
  have hk4 : Cnt x.s4 m4 := ⟨hm4, by omega, hn4⟩
  clear hm4
  obtain ⟨m5, hm5⟩ : ∃ m, (runesOf x.s5).length = m := ⟨_, rfl⟩
  have hn5 : (m5 : Int) ≤ 60 := by have := text_few x.s5 (HX.out.1 x.s5 (by simp [Lg.texts])).1; omega
  have hk5 : Cnt x.s5 m5 := ⟨hm5, by omega, hn5⟩
  clear hm5
  obtain ⟨m6, hm6⟩ : ∃ m, (runesOf x.s6).length = m := ⟨_, rfl⟩
  have hn6 : (m6 : Int) ≤ 60 := by have := text_few x.s6 (HX.out.1 x.s6 (by simp [Lg.texts])).1; omega
  have hk6 : Cnt x.s6 m6 := ⟨hm6, by omega, hn6⟩
  clear hm6
  obtain ⟨m7, hm7⟩ : ∃ m, (runesOf x.s7).length = m := ⟨_, rfl⟩
  have hn7 : (m7 : Int) ≤ 60 := by have := text_few x.s7 (HX.out.1 x.s7 (by simp [Lg.texts])).1; omega
  have hk7 : Cnt x.s7 m7 := ⟨hm7, by omega, hn7⟩
  clear hm7
  go_enter Try.func83, Try.ntmps83
  go_wp2_with (fail)
  refine (begin_any base g hb bb 32767 32768 C 0 0 0 16 v [] _ _ HN.out.raw (by omega) (by omega)).mono ?_
  rintro e w0 ⟨rfl, R0, K0⟩
  have hge := RawS.ge R0
  have hL0 := hL.kept K0 (fun hs => by have := RawS.ge HN.out.raw lb hs; omega)
  have hO := Go.Lib.hid (new_out HN.out R0)
  have hsz0 := K0.size
  have HGE := Go.Lib.hid hge
  have hF0 : Fresh w0 w0 := Kept.refl _ _
  clear R0 hge
  have q0 := (hL0.fresh hF0).c11
  go_wp2_with (fail)
  refine (str_any (x.s0) (by omega) _).mono ?_
  rintro e w1 ⟨v1, rfl, hr1, hG1⟩
  have hF1 := hF0.fresh hG1
  have HR1 := Go.Lib.hid hr1
  have HG1 := Go.Lib.hid hG1
  clear hr1 q0 hG1
  have q1 := (hL0.fresh hF1).c12
  go_wp2_with (fail)
  refine (str_any (x.s1) (by omega) _).mono ?_
  rintro e w2 ⟨v2, rfl, hr2, hG2⟩
  have hF2 := hF1.fresh hG2
  have HR2 := Go.Lib.hid hr2
  have HG2 := Go.Lib.hid hG2
  clear hr2 q1 hG2
  have q2 := (hL0.fresh hF2).c13
  go_wp2_with (fail)
  refine (manglePassword_any (x.s2) (by omega) _).mono ?_
  rintro e w3 ⟨v3, rfl, hr3, hG3⟩
  have hF3 := hF2.fresh hG3
  have HR3 := Go.Lib.hid hr3
  have HG3 := Go.Lib.hid hG3
  clear hr3 q2 hG3
  have q3 := (hL0.fresh hF3).c14
  go_wp2_with (fail)
  refine (str_any (x.s3) (by omega) _).mono ?_
  rintro e w4 ⟨v4, rfl, hr4, hG4⟩
  have hF4 := hF3.fresh hG4
  have HR4 := Go.Lib.hid hr4
  have HG4 := Go.Lib.hid hG4
  clear hr4 q3 hG4
  have q4 := (hL0.fresh hF4).c15
  go_wp2_with (fail)
  refine (str_any (x.s4) (by omega) _).mono ?_
  rintro e w5 ⟨v5, rfl, hr5, hG5⟩
  have hF5 := hF4.fresh hG5
  have HR5 := Go.Lib.hid hr5
  have HG5 := Go.Lib.hid hG5
  clear hr5 q4 hG5
  have q5 := (hL0.fresh hF5).c16
  go_wp2_with (fail)
  refine (str_any (x.s5) (by omega) _).mono ?_
  rintro e w6 ⟨v6, rfl, hr6, hG6⟩
  have hF6 := hF5.fresh hG6
  have HR6 := Go.Lib.hid hr6
  have HG6 := Go.Lib.hid hG6
  clear hr6 q5 hG6
  have q6 := (hL0.fresh hF6).c17
  go_wp2_with (fail)
  refine (str_any (x.s6) (by omega) _).mono ?_
  rintro e w7 ⟨v7, rfl, hr7, hG7⟩
  have hF7 := hF6.fresh hG7
  have HR7 := Go.Lib.hid hr7
  have HG7 := Go.Lib.hid hG7
  clear hr7 q6 hG7
  have q7 := (hL0.fresh hF7).c18
  go_wp2_with (fail)
  refine (str_any (x.s7) (by omega) _).mono ?_
  rintro e w8 ⟨v8, rfl, hr8, hG8⟩
  have hF8 := hF7.fresh hG8
  have HR8 := Go.Lib.hid hr8
  have HG8 := Go.Lib.hid hG8
  clear hr8 q7 hG8
  have q8 := (hL0.fresh hF8).c26
  go_wp2_with (fail)
  refine (str_any (em) hemp _).mono ?_
  rintro e w9 ⟨v9, rfl, hr9, hG9⟩
  have hF9 := hF8.fresh hG9
  have HR9 := Go.Lib.hid hr9
  have HG9 := Go.Lib.hid hG9
  clear hr9 q8 hG9
  have q9 := (hL0.fresh hF9).c27
  go_wp2_with (fail)
  refine (manglePassword_any (em) hemp _).mono ?_
  rintro e w10 ⟨v10, rfl, hr10, hG10⟩
  have hF10 := hF9.fresh hG10
  have HR10 := Go.Lib.hid hr10
  have HG10 := Go.Lib.hid hG10
  clear hr10 q9 hG10
  have hLZ := hL0.fresh hF10
  have hlb10 : lb < w10.heap.size := Nat.lt_of_lt_of_le (World.block_lt_of_cell? w0 ⟨lb, 0, none⟩ hL0.c0) hF10.size
  have HL0 := Go.Lib.hid hL0
  clear hL0 hL
  go_upto_region 13 with (fail)
  refine wp_cut (fun a' wc => ∃ h, Fr 427 a' ((16, h) :: K83 g lb v1 v2 v3 v4 v5 v6 v7 v8 v9 v10) ∧ Made w10 x m0 m1 m2 m3 m4 m5 m6 m7 h wc) ?rest ?first
  case first =>
    intro JJ KK hJ hKK
    have hLd := hLZ.fresh (Kept.refl _ _).drew
    have hFd := (Kept.refl w10 (fun _ => False)).drew
    clear hLZ
    refine reg_open (S := Lgn lb x) 117 (lst 117 0) (by kernel_rfl) (by kernel_rfl) (by kernel_rfl) (by intro c a d v w h; cases d <;> exact h) (by kernel_rfl) (fun OPS QQ HO HQ hQP hSel => ?_)
    have hE : OPS = ops83 := HO.out.trans (by kernel_rfl)
    clear HO hSel
    subst hE
    generalize w10.drew = vv at *
    refine wpAnyH_all (n := 427) (L := K83 g lb v1 v2 v3 v4 v5 v6 v7 v8 v9 v10) (Fr.of (by kernel_rfl) (by kernel_rfl) (by repeat (first | exact List.forall_mem_nil _ | refine List.forall_mem_cons.2 ⟨by kernel_rfl, ?_⟩))) (fun a0 hA0 => ?_)
    refine lit83 g lb x v1 v2 v3 v4 v5 v6 v7 v8 v9 v10 m0 m1 m2 m3 m4 m5 m6 m7 hk0 hk1 hk2 hk3 hk4 hk5 hk6 hk7 hQP w10 hlb10 a0 vv hLd hFd hA0 (fun a' w' h hFr hMade => ?_)
    rw [HQ.out]
    exact hKK _ _ (Met.intro (hJ _ _ ⟨h, hFr, hMade⟩))
  case rest =>
    intro aa wc hinv
    obtain ⟨h16, hFr, hcut⟩ := hinv
    obtain ⟨u, rfl⟩ := lit427 hFr
    clear hFr
    obtain ⟨hh, rfl, hh0, hhlt, hR, hT, hFc⟩ := hcut
    have hne1 : ¬ lb = hh := by omega
    have hne2 : ¬ hh = lb := by omega
    have s25 := (HL0.out.fresh (hF10.fresh hFc)).c25
    have k12 : wc.cell? ⟨hh, 12, none⟩ = some (.int .u16 0) := hR 12 _ rfl
    have f12 : wc.frozen? ⟨hh, 12, none⟩ = false := (hT 12 (by decide)).2
    have k14 : wc.cell? ⟨hh, 14, none⟩ = some (.int .u16 0) := hR 14 _ rfl
    have f14 : wc.frozen? ⟨hh, 14, none⟩ = false := (hT 14 (by decide)).2
    have k16 : wc.cell? ⟨hh, 16, none⟩ = some (.int .u16 0) := hR 16 _ rfl
    have f16 : wc.frozen? ⟨hh, 16, none⟩ = false := (hT 16 (by decide)).2
    have k18 : wc.cell? ⟨hh, 18, none⟩ = some (.int .u16 0) := hR 18 _ rfl
    have f18 : wc.frozen? ⟨hh, 18, none⟩ = false := (hT 18 (by decide)).2
    have k20 : wc.cell? ⟨hh, 20, none⟩ = some (.int .u16 0) := hR 20 _ rfl
    have f20 : wc.frozen? ⟨hh, 20, none⟩ = false := (hT 20 (by decide)).2
    have k24 : wc.cell? ⟨hh, 24, none⟩ = some (.int .u16 0) := hR 24 _ rfl
    have f24 : wc.frozen? ⟨hh, 24, none⟩ = false := (hT 24 (by decide)).2
    have k26 : wc.cell? ⟨hh, 26, none⟩ = some (.int .u16 0) := hR 26 _ rfl
    have f26 : wc.frozen? ⟨hh, 26, none⟩ = false := (hT 26 (by decide)).2
    have k28 : wc.cell? ⟨hh, 28, none⟩ = some (.int .u16 0) := hR 28 _ rfl
    have f28 : wc.frozen? ⟨hh, 28, none⟩ = false := (hT 28 (by decide)).2
    have k36 : wc.cell? ⟨hh, 36, none⟩ = some (.int .u16 0) := hR 36 _ rfl
    have f36 : wc.frozen? ⟨hh, 36, none⟩ = false := (hT 36 (by decide)).2
    have k38 : wc.cell? ⟨hh, 38, none⟩ = some (.int .u16 0) := hR 38 _ rfl
    have f38 : wc.frozen? ⟨hh, 38, none⟩ = false := (hT 38 (by decide)).2
    have k40 : wc.cell? ⟨hh, 40, none⟩ = some (.int .u16 0) := hR 40 _ rfl
    have f40 : wc.frozen? ⟨hh, 40, none⟩ = false := (hT 40 (by decide)).2
    have k0 : wc.cell? ⟨hh, 0, none⟩ = some (.int .u32 0) := hR 0 _ rfl
    have f0 : wc.frozen? ⟨hh, 0, none⟩ = false := (hT 0 (by decide)).2
    have HCR := Go.Lib.hid hR
    have HCT := Go.Lib.hid hT
    clear hR hT
    obtain ⟨A1, cc1, hv1⟩ := HR1.out.slice
    obtain ⟨n1, hl1⟩ : ∃ n, (ucs (runesOf x.s0)).length = n := ⟨_, rfl⟩
    rw [hl1] at hv1
    have hb1 : (n1 : Int) ≤ 120 := one_len HX.out hk0 (by simp [Lg.texts]) (by simpa using hl1)
    have HLN1 := Go.Lib.hid hl1
    clear hl1
    subst hv1
    obtain ⟨A2, cc2, hv2⟩ := HR2.out.slice
    obtain ⟨n2, hl2⟩ : ∃ n, (ucs (runesOf x.s1)).length = n := ⟨_, rfl⟩
    rw [hl2] at hv2
    have hb2 : (n2 : Int) ≤ 120 := one_len HX.out hk1 (by simp [Lg.texts]) (by simpa using hl2)
    have HLN2 := Go.Lib.hid hl2
    clear hl2
    subst hv2
    obtain ⟨A3, cc3, hv3⟩ := HR3.out.slice
    obtain ⟨n3, hl3⟩ : ∃ n, ((ucs (runesOf x.s2)).map mangle).length = n := ⟨_, rfl⟩
    rw [hl3] at hv3
    have hb3 : (n3 : Int) ≤ 120 := one_len HX.out hk2 (by simp [Lg.texts]) (by simpa using hl3)
    have HLN3 := Go.Lib.hid hl3
    clear hl3
    subst hv3
    obtain ⟨A4, cc4, hv4⟩ := HR4.out.slice
    obtain ⟨n4, hl4⟩ : ∃ n, (ucs (runesOf x.s3)).length = n := ⟨_, rfl⟩
    rw [hl4] at hv4
    have hb4 : (n4 : Int) ≤ 120 := one_len HX.out hk3 (by simp [Lg.texts]) (by simpa using hl4)
    have HLN4 := Go.Lib.hid hl4
    clear hl4
    subst hv4
    obtain ⟨A5, cc5, hv5⟩ := HR5.out.slice
    obtain ⟨n5, hl5⟩ : ∃ n, (ucs (runesOf x.s4)).length = n := ⟨_, rfl⟩
    rw [hl5] at hv5
    have hb5 : (n5 : Int) ≤ 120 := one_len HX.out hk4 (by simp [Lg.texts]) (by simpa using hl5)
    have HLN5 := Go.Lib.hid hl5
    clear hl5
    subst hv5
    obtain ⟨A6, cc6, hv6⟩ := HR6.out.slice
    obtain ⟨n6, hl6⟩ : ∃ n, (ucs (runesOf x.s5)).length = n := ⟨_, rfl⟩
    rw [hl6] at hv6
    have hb6 : (n6 : Int) ≤ 120 := one_len HX.out hk5 (by simp [Lg.texts]) (by simpa using hl6)
    have HLN6 := Go.Lib.hid hl6
    clear hl6
    subst hv6
    obtain ⟨A7, cc7, hv7⟩ := HR7.out.slice
    obtain ⟨n7, hl7⟩ : ∃ n, (ucs (runesOf x.s6)).length = n := ⟨_, rfl⟩
    rw [hl7] at hv7
    have hb7 : (n7 : Int) ≤ 120 := one_len HX.out hk6 (by simp [Lg.texts]) (by simpa using hl7)
    have HLN7 := Go.Lib.hid hl7
    clear hl7
    subst hv7
    obtain ⟨A8, cc8, hv8⟩ := HR8.out.slice
    obtain ⟨n8, hl8⟩ : ∃ n, (ucs (runesOf x.s7)).length = n := ⟨_, rfl⟩
    rw [hl8] at hv8
    have hb8 : (n8 : Int) ≤ 120 := one_len HX.out hk7 (by simp [Lg.texts]) (by simpa using hl8)
    have HLN8 := Go.Lib.hid hl8
    clear hl8
    subst hv8
    obtain ⟨A9, cc9, hv9⟩ := HR9.out.slice
    rw [show (ucs (runesOf em)).length = 0 from rfl] at hv9
    subst hv9
    obtain ⟨A10, cc10, hv10⟩ := HR10.out.slice
    rw [show ((ucs (runesOf em)).map mangle).length = 0 from rfl] at hv10
    subst hv10
    have HK0 := Go.Lib.hid hk0
    clear hk0
    have HK1 := Go.Lib.hid hk1
    clear hk1
    have HK2 := Go.Lib.hid hk2
    clear hk2
    have HK3 := Go.Lib.hid hk3
    clear hk3
    have HK4 := Go.Lib.hid hk4
    clear hk4
    have HK5 := Go.Lib.hid hk5
    clear hk5
    have HK6 := Go.Lib.hid hk6
    clear hk6
    have HK7 := Go.Lib.hid hk7
    clear hk7
    obtain ⟨WW, hWW, hR2, hK2⟩ := stored12 x m0 m1 m2 m3 m4 m5 m6 m7 n1 n2 n3 n4 n5 n6 n7 n8 wc hh HCR.out
    have hw0c := hF10.fresh hFc
    have hbf := bf_first w w0 wc WW base g hb bb C hh v hO.out (K0.mono (fun j _ hj => RawS.ge HN.out.raw j hj)) hw0c hK2 (Nat.le_trans hF10.size hh0) hbase
    have hT10 : Fresh w10 w10 := Kept.refl _ _
    have hT9 : Fresh w9 w10 := HG10.out.fresh hT10
    have hT8 : Fresh w8 w10 := HG9.out.fresh hT9
    have hT7 : Fresh w7 w10 := HG8.out.fresh hT8
    have hT6 : Fresh w6 w10 := HG7.out.fresh hT7
    have hT5 : Fresh w5 w10 := HG6.out.fresh hT6
    have hT4 : Fresh w4 w10 := HG5.out.fresh hT5
    have hT3 : Fresh w3 w10 := HG4.out.fresh hT4
    have hT2 : Fresh w2 w10 := HG3.out.fresh hT3
    have hT1 : Fresh w1 w10 := HG2.out.fresh hT2
    have ht1 := Go.Lib.hid (txt_first HR1.out (Nat.le_refl _) (hT1.fresh hFc) hK2 (Nat.le_trans hT1.size hh0))
    have ht2 := Go.Lib.hid (txt_first HR2.out hF1.size (hT2.fresh hFc) hK2 (Nat.le_trans hT2.size hh0))
    have ht3 := Go.Lib.hid (txt_first HR3.out hF2.size (hT3.fresh hFc) hK2 (Nat.le_trans hT3.size hh0))
    have ht4 := Go.Lib.hid (txt_first HR4.out hF3.size (hT4.fresh hFc) hK2 (Nat.le_trans hT4.size hh0))
    have ht5 := Go.Lib.hid (txt_first HR5.out hF4.size (hT5.fresh hFc) hK2 (Nat.le_trans hT5.size hh0))
    have ht6 := Go.Lib.hid (txt_first HR6.out hF5.size (hT6.fresh hFc) hK2 (Nat.le_trans hT6.size hh0))
    have ht7 := Go.Lib.hid (txt_first HR7.out hF6.size (hT7.fresh hFc) hK2 (Nat.le_trans hT7.size hh0))
    have ht8 := Go.Lib.hid (txt_first HR8.out hF7.size (hT8.fresh hFc) hK2 (Nat.le_trans hT8.size hh0))
    have ht9 := Go.Lib.hid (txt_first HR9.out hF8.size (hT9.fresh hFc) hK2 (Nat.le_trans hT9.size hh0))
    have ht10 := Go.Lib.hid (txt_first HR10.out hF9.size (hT10.fresh hFc) hK2 (Nat.le_trans hT10.size hh0))
    clear hT1
    clear hT2
    clear hT3
    clear hT4
    clear hT5
    clear hT6
    clear hT7
    clear hT8
    clear hT9
    clear hT10
    have HB0 := Go.Lib.hid hbf
    have HH := Go.Lib.hid (hdr_of x HX.out HWF.out m0 m1 m2 m3 m4 m5 m6 m7 n1 n2 n3 n4 n5 n6 n7 n8 WW hh hR2)
    have HWW := Go.Lib.hid hWW
    have HKW := Go.Lib.hid hK2
    clear hbf hWW hR2 hK2 hw0c
    go_wp2_with (fail)
    rw [HWW.out]
    refine (header_write w base g hb bb C w0.heap.size wc.heap.size v hh x.off (nums x m0 m1 m2 m3 m4 m5 m6 m7 n1 n2 n3 n4 n5 n6 n7 n8) WW HB0.out HH.out (nums_lt x HX.out HWF.out m0 m1 m2 m3 m4 m5 m6 m7 n1 n2 n3 n4 n5 n6 n7 n8 (few_of HK0.out hb1) (few_of HK1.out hb2) (few_of HK2.out hb3) (few_of HK3.out hb4) (few_of HK4.out hb5) (few_of HK5.out hb6) (few_of HK6.out hb7) (few_of HK7.out hb8)) (tz_of x m0 m1 m2 m3 m4 m5 m6 m7 n1 n2 n3 n4 n5 n6 n7 n8) hc1 hc2).mono ?_
    rintro e y0 ⟨rfl, vv0, hB, hQ0⟩
    have HB := Go.Lib.hid hB
    clear hB
    clear HB0
    have HQ0 := Go.Lib.hid hQ0
    clear hQ0
    go_wp2_with (fail)
    refine (text_write w base g hb bb C 94 w0.heap.size wc.heap.size vv0 _ (ucs (runesOf x.s0)) _ _ HB.out (ht1.out.kept HQ0.out) (by rw [HLN1.out]; omega) (by omega) hc1 hc2).mono ?_
    rintro e y1 ⟨rfl, vv1, hB, hq⟩
    clear HB
    have HB := Go.Lib.hid hB
    have HQ1 := Go.Lib.hid (HQ0.out.trans hq (fun _ _ h => h))
    clear hB hq HQ0
    go_wp2_with (fail)
    refine (text_write w base g hb bb C 1094 w0.heap.size wc.heap.size vv1 _ (ucs (runesOf x.s1)) _ _ HB.out (ht2.out.kept HQ1.out) (by rw [HLN2.out]; omega) (by omega) hc1 hc2).mono ?_
    rintro e y2 ⟨rfl, vv2, hB, hq⟩
    clear HB
    have HB := Go.Lib.hid hB
    have HQ2 := Go.Lib.hid (HQ1.out.trans hq (fun _ _ h => h))
    clear hB hq HQ1
    go_wp2_with (fail)
    refine (text_write w base g hb bb C 2094 w0.heap.size wc.heap.size vv2 _ ((ucs (runesOf x.s2)).map mangle) _ _ HB.out (ht3.out.kept HQ2.out) (by rw [HLN3.out]; omega) (by omega) hc1 hc2).mono ?_
    rintro e y3 ⟨rfl, vv3, hB, hq⟩
    clear HB
    have HB := Go.Lib.hid hB
    have HQ3 := Go.Lib.hid (HQ2.out.trans hq (fun _ _ h => h))
    clear hB hq HQ2
    go_wp2_with (fail)
    refine (text_write w base g hb bb C 3094 w0.heap.size wc.heap.size vv3 _ (ucs (runesOf x.s3)) _ _ HB.out (ht4.out.kept HQ3.out) (by rw [HLN4.out]; omega) (by omega) hc1 hc2).mono ?_
    rintro e y4 ⟨rfl, vv4, hB, hq⟩
    clear HB
    have HB := Go.Lib.hid hB
    have HQ4 := Go.Lib.hid (HQ3.out.trans hq (fun _ _ h => h))
    clear hB hq HQ3
    go_wp2_with (fail)
    refine (text_write w base g hb bb C 4094 w0.heap.size wc.heap.size vv4 _ (ucs (runesOf x.s4)) _ _ HB.out (ht5.out.kept HQ4.out) (by rw [HLN5.out]; omega) (by omega) hc1 hc2).mono ?_
    rintro e y5 ⟨rfl, vv5, hB, hq⟩
    clear HB
    have HB := Go.Lib.hid hB
    have HQ5 := Go.Lib.hid (HQ4.out.trans hq (fun _ _ h => h))
    clear hB hq HQ4
    go_wp2_with (fail)
    refine (text_write w base g hb bb C 5094 w0.heap.size wc.heap.size vv5 _ (ucs (runesOf x.s5)) _ _ HB.out (ht6.out.kept HQ5.out) (by rw [HLN6.out]; omega) (by omega) hc1 hc2).mono ?_
    rintro e y6 ⟨rfl, vv6, hB, hq⟩
    clear HB
    have HB := Go.Lib.hid hB
    have HQ6 := Go.Lib.hid (HQ5.out.trans hq (fun _ _ h => h))
    clear hB hq HQ5
    go_wp2_with (fail)
    refine (text_write w base g hb bb C 6094 w0.heap.size wc.heap.size vv6 _ (ucs (runesOf x.s6)) _ _ HB.out (ht7.out.kept HQ6.out) (by rw [HLN7.out]; omega) (by omega) hc1 hc2).mono ?_
    rintro e y7 ⟨rfl, vv7, hB, hq⟩
    clear HB
    have HB := Go.Lib.hid hB
    have HQ7 := Go.Lib.hid (HQ6.out.trans hq (fun _ _ h => h))
    clear hB hq HQ6
    go_wp2_with (fail)
    refine (text_write w base g hb bb C 7094 w0.heap.size wc.heap.size vv7 _ (ucs (runesOf x.s7)) _ _ HB.out (ht8.out.kept HQ7.out) (by rw [HLN8.out]; omega) (by omega) hc1 hc2).mono ?_
    rintro e y8 ⟨rfl, vv8, hB, hq⟩
    clear HB
    have HB := Go.Lib.hid hB
    have HQ8 := Go.Lib.hid (HQ7.out.trans hq (fun _ _ h => h))
    clear hB hq HQ7
    have s25 := (HL.out.kept HB.out.kept (fun h => by omega)).c25
    go_wp2_with (fail)
    refine (text_write w base g hb bb C 8094 w0.heap.size wc.heap.size vv8 _ [] _ _ HB.out (txt_nil _ _ _) (by decide) (by omega) hc1 hc2).mono ?_
    rintro e y9 ⟨rfl, vv9, hB, hq⟩
    clear s25
    clear HB
    have HB := Go.Lib.hid hB
    have HQ9 := Go.Lib.hid (HQ8.out.trans hq (fun _ _ h => h))
    clear hB hq HQ8
    go_wp2_with (fail)
    refine (text_write w base g hb bb C 9094 w0.heap.size wc.heap.size vv9 _ (ucs (runesOf em)) _ _ HB.out (ht9.out.kept HQ9.out) (by decide) (by omega) hc1 hc2).mono ?_
    rintro e y10 ⟨rfl, vv10, hB, hq⟩
    clear HB
    have HB := Go.Lib.hid hB
    have HQ10 := Go.Lib.hid (HQ9.out.trans hq (fun _ _ h => h))
    clear hB hq HQ9
    go_wp2_with (fail)
    refine (text_write w base g hb bb C 10094 w0.heap.size wc.heap.size vv10 _ ((ucs (runesOf em)).map mangle) _ _ HB.out (ht10.out.kept HQ10.out) (by decide) (by omega) hc1 hc2).mono ?_
    rintro e y11 ⟨rfl, vv11, hB, hq⟩
    clear HB
    have HB := Go.Lib.hid hB
    have HQ11 := Go.Lib.hid (HQ10.out.trans hq (fun _ _ h => h))
    clear hB hq HQ10
    go_wp2_with (fail)
    refine (finish_write w base g hb bb C 11094 w0.heap.size wc.heap.size vv11 _ _ HB.out (by omega) hc1 hc2).mono ?_
    rintro e z ⟨rfl, hsent⟩
    have HSE := Go.Lib.hid hsent
    clear hsent
    go_wp2
    go_ret
    refine ⟨rfl, ?_⟩
    have hp : x.pay = payB x m0 m1 m2 m3 m4 m5 m6 m7 n1 n2 n3 n4 n5 n6 n7 n8 := by
      unfold Lg.pay
      rw [HK0.out.1, HK1.out.1, HK2.out.1, HK3.out.1, HK4.out.1, HK5.out.1, HK6.out.1, HK7.out.1, HLN1.out, HLN2.out, HLN3.out, HLN4.out, HLN5.out, HLN6.out, HLN7.out, HLN8.out]
    rw [hp]
    exact HSE.out
end Go.Proofs.Ytahcaoenddapoaa
