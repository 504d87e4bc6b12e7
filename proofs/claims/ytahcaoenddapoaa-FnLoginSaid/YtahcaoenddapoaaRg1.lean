/- sendLogin's literal: in which order its operations may come; what it loads. (Printed by genrg.py.) -/
import Derived.Test.YtahcaoenddapoaaRg0
namespace Go.Proofs.Ytahcaoenddapoaa
open Go.RowKit


theorem ok83_0 : okTake 0 0 = true := by kernel_rfl
theorem ok83_1 : okTake 1 1 = true := by kernel_rfl
theorem ok83_2 : okTake 3 2 = true := by kernel_rfl
theorem ok83_3 : okTake 7 3 = true := by kernel_rfl
theorem ok83_4 : okTake 15 4 = true := by kernel_rfl
theorem ok83_5 : okTake 31 5 = true := by kernel_rfl
theorem ok83_6 : okTake 63 6 = true := by kernel_rfl
theorem ok83_7 : okTake 127 7 = true := by kernel_rfl
theorem ok83_8 : okTake 255 8 = true := by kernel_rfl
theorem ok83_9 : okTake 511 9 = true := by kernel_rfl
theorem ok83_10 : okTake 1023 10 = true := by kernel_rfl
theorem ok83_11 : okTake 2047 11 = true := by kernel_rfl
theorem ok83_12 : okTake 4095 12 = true := by kernel_rfl
theorem ok83_13 : okTake 8191 13 = true := by kernel_rfl
theorem ok83_14 : okTake 16383 14 = true := by kernel_rfl
theorem ok83_15 : okTake 32767 15 = true := by kernel_rfl
theorem ok83_16 : okTake 65535 16 = true := by kernel_rfl
theorem ok83_17 : okTake 131071 17 = true := by kernel_rfl
theorem ok83_18 : okTake 262143 18 = true := by kernel_rfl
theorem ok83_19 : okTake 524287 19 = true := by kernel_rfl
theorem ok83_20 : okTake 1048575 20 = true := by kernel_rfl
theorem ok83_21 : okTake 2097151 21 = true := by kernel_rfl
theorem ok83_22 : okTake 4194303 22 = true := by kernel_rfl
theorem ok83_23 : okTake 8388607 23 = true := by kernel_rfl
theorem ok83_24 : okTake 16777215 24 = true := by kernel_rfl
theorem ok83_25 : okTake 33554431 25 = true := by kernel_rfl
theorem ok83_26 : okTake 67108863 26 = true := by kernel_rfl
theorem ok83_27 : okTake 134217727 27 = true := by kernel_rfl
theorem ok83_28 : okTake 268435455 28 = true := by kernel_rfl
theorem ok83_29 : okTake 536870911 29 = true := by kernel_rfl
theorem ok83_30 : okTake 1073741823 30 = true := by kernel_rfl
theorem ok83_31 : okTake 2147483647 31 = true := by kernel_rfl
theorem ok83_32 : okTake 4294967295 32 = true := by kernel_rfl
theorem ok83_33 : okTake 8589934591 33 = true := by kernel_rfl
theorem ok83_34 : okTake 17179869183 34 = true := by kernel_rfl
theorem ok83_35 : okTake 34359738367 35 = true := by kernel_rfl
theorem ok83_36 : okTake 68719476735 36 = true := by kernel_rfl
theorem ok83_37 : okTake 137438953471 37 = true := by kernel_rfl
theorem ok83_38 : okTake 274877906943 38 = true := by kernel_rfl
theorem ok83_39 : okTake 549755813887 39 = true := by kernel_rfl
theorem ok83_40 : okTake 1099511627775 40 = true := by kernel_rfl
theorem ok83_41 : okTake 2199023255551 41 = true := by kernel_rfl
theorem ok83_42 : okTake 4398046511103 42 = true := by kernel_rfl
theorem ok83_43 : okTake 8796093022207 43 = true := by kernel_rfl
theorem ok83_44 : okTake 17592186044415 44 = true := by kernel_rfl
theorem ok83_45 : okTake 35184372088831 45 = true := by kernel_rfl
theorem ok83_46 : okTake 70368744177663 46 = true := by kernel_rfl
theorem ok83_47 : okTake 140737488355327 47 = true := by kernel_rfl
theorem ok83_48 : okTake 281474976710655 50 = true := by kernel_rfl
theorem ok83_49 : okTake 1407374883553279 51 = true := by kernel_rfl
theorem ok83_50 : okTake 3659174697238527 52 = true := by kernel_rfl
theorem ok83_51 : okTake 8162774324609023 53 = true := by kernel_rfl
theorem ok83_52 : okTake 17169973579350015 56 = true := by kernel_rfl
theorem ok83_53 : okTake 89227567617277951 57 = true := by kernel_rfl
theorem ok83_54 : okTake 233342755693133823 58 = true := by kernel_rfl
theorem ok83_55 : okTake 521573131844845567 59 = true := by kernel_rfl
theorem ok83_56 : okTake 1098033884148269055 62 = true := by kernel_rfl
theorem ok83_57 : okTake 5709719902575656959 63 = true := by kernel_rfl
theorem ok83_58 : okTake 14933091939430432767 64 = true := by kernel_rfl
theorem ok83_59 : okTake 33379836013139984383 65 = true := by kernel_rfl
theorem ok83_60 : okTake 70273324160559087615 68 = true := by kernel_rfl
theorem ok83_61 : okTake 365421229339911913471 69 = true := by kernel_rfl
theorem ok83_62 : okTake 955717039698617565183 70 = true := by kernel_rfl
theorem ok83_63 : okTake 2136308660416028868607 71 = true := by kernel_rfl
theorem ok83_64 : okTake 4497491901850851475455 74 = true := by kernel_rfl
theorem ok83_65 : okTake 23386957833329432330239 75 = true := by kernel_rfl
theorem ok83_66 : okTake 61165889696286594039807 76 = true := by kernel_rfl
theorem ok83_67 : okTake 136723753422200917458943 77 = true := by kernel_rfl
theorem ok83_68 : okTake 287839480874029564297215 80 = true := by kernel_rfl
theorem ok83_69 : okTake 1496765300488658739003391 81 = true := by kernel_rfl
theorem ok83_70 : okTake 3914616939717917088415743 82 = true := by kernel_rfl
theorem ok83_71 : okTake 8750320218176433787240447 83 = true := by kernel_rfl
theorem ok83_72 : okTake 18421726775093467184889855 86 = true := by kernel_rfl
theorem ok83_73 : okTake 95792979230429734366085119 87 = true := by kernel_rfl
theorem ok83_74 : okTake 250535484141102268728475647 88 = true := by kernel_rfl
theorem ok83_75 : okTake 560020493962447337453256703 89 = true := by kernel_rfl
theorem ok83_76 : okTake 1178990513605137474902818815 92 = true := by kernel_rfl
theorem ok83_77 : okTake 6130750670746658574499315711 93 = true := by kernel_rfl
theorem ok83_78 : okTake 16034270985029700773692309503 94 = true := by kernel_rfl
theorem ok83_79 : okTake 35841311613595785172078297087 95 = true := by kernel_rfl
theorem ok83_80 : okTake 75455392870727953968850272255 96 = true := by kernel_rfl
theorem ok83_81 : okTake 154683555384992291562394222591 97 = true := by kernel_rfl
theorem ok83_82 : okTake 313139880413520966749482123263 98 = true := by kernel_rfl
theorem ok83_83 : okTake 630052530470578317123657924607 99 = true := by kernel_rfl
theorem ok83_84 : okTake 1263877830584693017872009527295 100 = true := by kernel_rfl
theorem ok83_85 : okTake 2531528430812922419368712732671 101 = true := by kernel_rfl
theorem ok83_86 : okTake 5066829631269381222362119143423 102 = true := by kernel_rfl
theorem ok83_87 : okTake 10137432032182298828348931964927 103 = true := by kernel_rfl
theorem ok83_88 : okTake 20278636834008134040322557607935 104 = true := by kernel_rfl
theorem ok83_89 : okTake 40561046437659804464269808893951 105 = true := by kernel_rfl
theorem ok83_90 : okTake 81125865644963145312164311465983 108 = true := by kernel_rfl
theorem ok83_91 : okTake 405644419303389872095320332042239 109 = true := by kernel_rfl
theorem ok83_92 : okTake 1054681526620243325661632373194751 110 = true := by kernel_rfl
theorem ok83_93 : okTake 2352755741253950232794256455499775 111 = true := by kernel_rfl

/-- What the frame holds ahead of the literal. -/
@[reducible] def K83 (g lb : Nat) (v1 v2 v3 v4 v5 v6 v7 v8 v9 v10 : Value) : List (Nat × Value) := [(0, .pointer (some ⟨g, 0, none⟩)), (1, .pointer (some ⟨lb, 0, none⟩)), (2, undef), (3, undef), (4, .nilIface), (5, v1), (6, v2), (7, v3), (8, v4), (9, v5), (10, v6), (11, v7), (12, v8), (13, v9), (14, v10), (15, .slice none 0 0), (17, undef), (18, undef), (19, undef), (20, undef)]
/-- .. and behind the loads. -/
@[reducible] def L83 (x : Lg) : List (Nat × Value) := [(76, .int .u32 x.t0), (80, .int .u32 x.t1), (84, .int .u32 x.t2), (88, .int .u32 x.t3), (92, .int .u32 x.t4), (96, .int .u8 x.f1), (100, .int .u8 x.f2), (104, .int .u8 x.f3), (108, .int .u8 x.f4), (112, .int .i32 x.off), (116, .int .u32 x.lcid), (120, .string x.s0), (126, .string x.s1), (132, .string x.s2), (138, .string x.s3), (144, .string x.s4), (150, .string x.s5), (156, .string x.s6), (162, .string x.s7), (168, .agg #[.int .u8 0, .int .u8 0, .int .u8 0, .int .u8 0, .int .u8 0, .int .u8 0]), (174, .int .u16 0), (178, .string em), (184, .string em)]
set_option maxRecDepth 100000 in
set_option maxHeartbeats 0 in
theorem loads83_0 (g lb : Nat) (x : Lg) (v1 v2 v3 v4 v5 v6 v7 v8 v9 v10 : Value) {Q : Exit → Act → World → Prop} (hQ : PanicsUp Q) (a : Act) (w : World) (hL : Lgn lb x w) (hA : Fr 427 a []) (hB : Fr 427 a (K83 g lb v1 v2 v3 v4 v5 v6 v7 v8 v9 v10)) (fuel : Nat)
    (h : ∀ a', Fr 427 a' [(76, .int .u32 x.t0), (80, .int .u32 x.t1), (84, .int .u32 x.t2), (88, .int .u32 x.t3), (92, .int .u32 x.t4), (96, .int .u8 x.f1)] → Fr 427 a' (K83 g lb v1 v2 v3 v4 v5 v6 v7 v8 v9 v10) → wpAnyH Try.prog .any ops83 Q (Lgn lb x) fuel (lst 117 16777215) a' w) : wpAnyH Try.prog .any ops83 Q (Lgn lb x) (fuel + 24) (lst 117 0) a w := by
  refine tk83 hQ (i := 0) (d := 73) (N' := 1) (v := .pointer (some ⟨lb, 0, none⟩)) ok83_0 (by kernel_rfl) (by decide) rfl hA hB rfl ?_ hL ?_
  · intro W hSw; have e1 := hB.eval 1 rfl; have ho : op83 0 = op83 0 := rfl; conv at ho => rhs; whnf
    rw [ho]; go_simp; first | done | with_reducible rfl | rfl
  intro a1 hA1 hB1
  clear hA hB
  refine tk83 hQ (i := 1) (d := 74) (N' := 3) (v := .pointer (some ⟨lb, 0, none⟩)) ok83_1 (by kernel_rfl) (by decide) rfl hA1 hB1 rfl ?_ hL ?_
  · intro W hSw; have e73 := hA1.eval 73 rfl; have ho : op83 1 = op83 1 := rfl; conv at ho => rhs; whnf
    rw [ho]; go_simp; first | done | with_reducible rfl | rfl
  intro a2 hA2 hB2
  clear hA1 hB1
  refine tk83 hQ (i := 2) (d := 75) (N' := 7) (v := .pointer (some ⟨lb, 0, none⟩)) ok83_2 (by kernel_rfl) (by decide) rfl hA2 hB2 rfl ?_ hL ?_
  · intro W hSw; have e74 := hA2.eval 74 rfl; have ho : op83 2 = op83 2 := rfl; conv at ho => rhs; whnf
    rw [ho]; go_simp; first | done | with_reducible rfl | rfl
  intro a3 hA3 hB3
  clear hA2 hB2
  refine tk83 hQ (i := 3) (d := 76) (N' := 15) (v := .int .u32 x.t0) ok83_3 (by kernel_rfl) (by decide) rfl hA3 hB3 rfl ?_ hL ?_
  · intro W hSw; have q0 := hSw.c0; have e75 := hA3.eval 75 rfl; have ho : op83 3 = op83 3 := rfl; conv at ho => rhs; whnf
    rw [ho]; go_simp; first | done | with_reducible rfl | rfl
  intro a4 hA4 hB4
  clear hA3 hB3
  refine tk83 hQ (i := 4) (d := 77) (N' := 31) (v := .pointer (some ⟨lb, 0, none⟩)) ok83_4 (by kernel_rfl) (by decide) rfl hA4 hB4 rfl ?_ hL ?_
  · intro W hSw; have e1 := hB4.eval 1 rfl; have ho : op83 4 = op83 4 := rfl; conv at ho => rhs; whnf
    rw [ho]; go_simp; first | done | with_reducible rfl | rfl
  intro a5 hA5 hB5
  clear hA4 hB4
  refine tk83 hQ (i := 5) (d := 78) (N' := 63) (v := .pointer (some ⟨lb, 0, none⟩)) ok83_5 (by kernel_rfl) (by decide) rfl hA5 hB5 rfl ?_ hL ?_
  · intro W hSw; have e77 := hA5.eval 77 rfl; have ho : op83 5 = op83 5 := rfl; conv at ho => rhs; whnf
    rw [ho]; go_simp; first | done | with_reducible rfl | rfl
  intro a6 hA6 hB6
  clear hA5 hB5
  refine tk83 hQ (i := 6) (d := 79) (N' := 127) (v := .pointer (some ⟨lb, 1, none⟩)) ok83_6 (by kernel_rfl) (by decide) rfl hA6 hB6 rfl ?_ hL ?_
  · intro W hSw; have e78 := hA6.eval 78 rfl; have ho : op83 6 = op83 6 := rfl; conv at ho => rhs; whnf
    rw [ho]; go_simp; first | done | with_reducible rfl | rfl
  intro a7 hA7 hB7
  clear hA6 hB6
  refine tk83 hQ (i := 7) (d := 80) (N' := 255) (v := .int .u32 x.t1) ok83_7 (by kernel_rfl) (by decide) rfl hA7 hB7 rfl ?_ hL ?_
  · intro W hSw; have q0 := hSw.c1; have e79 := hA7.eval 79 rfl; have ho : op83 7 = op83 7 := rfl; conv at ho => rhs; whnf
    rw [ho]; go_simp; first | done | with_reducible rfl | rfl
  intro a8 hA8 hB8
  clear hA7 hB7
  refine tk83 hQ (i := 8) (d := 81) (N' := 511) (v := .pointer (some ⟨lb, 0, none⟩)) ok83_8 (by kernel_rfl) (by decide) rfl hA8 hB8 rfl ?_ hL ?_
  · intro W hSw; have e1 := hB8.eval 1 rfl; have ho : op83 8 = op83 8 := rfl; conv at ho => rhs; whnf
    rw [ho]; go_simp; first | done | with_reducible rfl | rfl
  intro a9 hA9 hB9
  clear hA8 hB8
  refine tk83 hQ (i := 9) (d := 82) (N' := 1023) (v := .pointer (some ⟨lb, 0, none⟩)) ok83_9 (by kernel_rfl) (by decide) rfl hA9 hB9 rfl ?_ hL ?_
  · intro W hSw; have e81 := hA9.eval 81 rfl; have ho : op83 9 = op83 9 := rfl; conv at ho => rhs; whnf
    rw [ho]; go_simp; first | done | with_reducible rfl | rfl
  intro a10 hA10 hB10
  clear hA9 hB9
  refine tk83 hQ (i := 10) (d := 83) (N' := 2047) (v := .pointer (some ⟨lb, 2, none⟩)) ok83_10 (by kernel_rfl) (by decide) rfl hA10 hB10 rfl ?_ hL ?_
  · intro W hSw; have e82 := hA10.eval 82 rfl; have ho : op83 10 = op83 10 := rfl; conv at ho => rhs; whnf
    rw [ho]; go_simp; first | done | with_reducible rfl | rfl
  intro a11 hA11 hB11
  clear hA10 hB10
  refine tk83 hQ (i := 11) (d := 84) (N' := 4095) (v := .int .u32 x.t2) ok83_11 (by kernel_rfl) (by decide) rfl hA11 hB11 rfl ?_ hL ?_
  · intro W hSw; have q0 := hSw.c2; have e83 := hA11.eval 83 rfl; have ho : op83 11 = op83 11 := rfl; conv at ho => rhs; whnf
    rw [ho]; go_simp; first | done | with_reducible rfl | rfl
  intro a12 hA12 hB12
  clear hA11 hB11
  refine tk83 hQ (i := 12) (d := 85) (N' := 8191) (v := .pointer (some ⟨lb, 0, none⟩)) ok83_12 (by kernel_rfl) (by decide) rfl hA12 hB12 rfl ?_ hL ?_
  · intro W hSw; have e1 := hB12.eval 1 rfl; have ho : op83 12 = op83 12 := rfl; conv at ho => rhs; whnf
    rw [ho]; go_simp; first | done | with_reducible rfl | rfl
  intro a13 hA13 hB13
  clear hA12 hB12
  refine tk83 hQ (i := 13) (d := 86) (N' := 16383) (v := .pointer (some ⟨lb, 0, none⟩)) ok83_13 (by kernel_rfl) (by decide) rfl hA13 hB13 rfl ?_ hL ?_
  · intro W hSw; have e85 := hA13.eval 85 rfl; have ho : op83 13 = op83 13 := rfl; conv at ho => rhs; whnf
    rw [ho]; go_simp; first | done | with_reducible rfl | rfl
  intro a14 hA14 hB14
  clear hA13 hB13
  refine tk83 hQ (i := 14) (d := 87) (N' := 32767) (v := .pointer (some ⟨lb, 3, none⟩)) ok83_14 (by kernel_rfl) (by decide) rfl hA14 hB14 rfl ?_ hL ?_
  · intro W hSw; have e86 := hA14.eval 86 rfl; have ho : op83 14 = op83 14 := rfl; conv at ho => rhs; whnf
    rw [ho]; go_simp; first | done | with_reducible rfl | rfl
  intro a15 hA15 hB15
  clear hA14 hB14
  refine tk83 hQ (i := 15) (d := 88) (N' := 65535) (v := .int .u32 x.t3) ok83_15 (by kernel_rfl) (by decide) rfl hA15 hB15 rfl ?_ hL ?_
  · intro W hSw; have q0 := hSw.c3; have e87 := hA15.eval 87 rfl; have ho : op83 15 = op83 15 := rfl; conv at ho => rhs; whnf
    rw [ho]; go_simp; first | done | with_reducible rfl | rfl
  intro a16 hA16 hB16
  clear hA15 hB15
  refine tk83 hQ (i := 16) (d := 89) (N' := 131071) (v := .pointer (some ⟨lb, 0, none⟩)) ok83_16 (by kernel_rfl) (by decide) rfl hA16 hB16 rfl ?_ hL ?_
  · intro W hSw; have e1 := hB16.eval 1 rfl; have ho : op83 16 = op83 16 := rfl; conv at ho => rhs; whnf
    rw [ho]; go_simp; first | done | with_reducible rfl | rfl
  intro a17 hA17 hB17
  clear hA16 hB16
  refine tk83 hQ (i := 17) (d := 90) (N' := 262143) (v := .pointer (some ⟨lb, 0, none⟩)) ok83_17 (by kernel_rfl) (by decide) rfl hA17 hB17 rfl ?_ hL ?_
  · intro W hSw; have e89 := hA17.eval 89 rfl; have ho : op83 17 = op83 17 := rfl; conv at ho => rhs; whnf
    rw [ho]; go_simp; first | done | with_reducible rfl | rfl
  intro a18 hA18 hB18
  clear hA17 hB17
  refine tk83 hQ (i := 18) (d := 91) (N' := 524287) (v := .pointer (some ⟨lb, 4, none⟩)) ok83_18 (by kernel_rfl) (by decide) rfl hA18 hB18 rfl ?_ hL ?_
  · intro W hSw; have e90 := hA18.eval 90 rfl; have ho : op83 18 = op83 18 := rfl; conv at ho => rhs; whnf
    rw [ho]; go_simp; first | done | with_reducible rfl | rfl
  intro a19 hA19 hB19
  clear hA18 hB18
  refine tk83 hQ (i := 19) (d := 92) (N' := 1048575) (v := .int .u32 x.t4) ok83_19 (by kernel_rfl) (by decide) rfl hA19 hB19 rfl ?_ hL ?_
  · intro W hSw; have q0 := hSw.c4; have e91 := hA19.eval 91 rfl; have ho : op83 19 = op83 19 := rfl; conv at ho => rhs; whnf
    rw [ho]; go_simp; first | done | with_reducible rfl | rfl
  intro a20 hA20 hB20
  clear hA19 hB19
  refine tk83 hQ (i := 20) (d := 93) (N' := 2097151) (v := .pointer (some ⟨lb, 0, none⟩)) ok83_20 (by kernel_rfl) (by decide) rfl hA20 hB20 rfl ?_ hL ?_
  · intro W hSw; have e1 := hB20.eval 1 rfl; have ho : op83 20 = op83 20 := rfl; conv at ho => rhs; whnf
    rw [ho]; go_simp; first | done | with_reducible rfl | rfl
  intro a21 hA21 hB21
  clear hA20 hB20
  refine tk83 hQ (i := 21) (d := 94) (N' := 4194303) (v := .pointer (some ⟨lb, 0, none⟩)) ok83_21 (by kernel_rfl) (by decide) rfl hA21 hB21 rfl ?_ hL ?_
  · intro W hSw; have e93 := hA21.eval 93 rfl; have ho : op83 21 = op83 21 := rfl; conv at ho => rhs; whnf
    rw [ho]; go_simp; first | done | with_reducible rfl | rfl
  intro a22 hA22 hB22
  clear hA21 hB21
  refine tk83 hQ (i := 22) (d := 95) (N' := 8388607) (v := .pointer (some ⟨lb, 5, none⟩)) ok83_22 (by kernel_rfl) (by decide) rfl hA22 hB22 rfl ?_ hL ?_
  · intro W hSw; have e94 := hA22.eval 94 rfl; have ho : op83 22 = op83 22 := rfl; conv at ho => rhs; whnf
    rw [ho]; go_simp; first | done | with_reducible rfl | rfl
  intro a23 hA23 hB23
  clear hA22 hB22
  refine tk83 hQ (i := 23) (d := 96) (N' := 16777215) (v := .int .u8 x.f1) ok83_23 (by kernel_rfl) (by decide) rfl hA23 hB23 rfl ?_ hL ?_
  · intro W hSw; have q0 := hSw.c5; have e95 := hA23.eval 95 rfl; have ho : op83 23 = op83 23 := rfl; conv at ho => rhs; whnf
    rw [ho]; go_simp; first | done | with_reducible rfl | rfl
  intro a24 hA24 hB24
  clear hA23 hB23
  exact h _ (Fr.of hA24.size hA24.defs (by repeat (first | exact List.forall_mem_nil _ | refine List.forall_mem_cons.2 ⟨hA24.has _ _ rfl, ?_⟩))) hB24

set_option maxRecDepth 100000 in
set_option maxHeartbeats 0 in
theorem loads83_1 (g lb : Nat) (x : Lg) (v1 v2 v3 v4 v5 v6 v7 v8 v9 v10 : Value) {Q : Exit → Act → World → Prop} (hQ : PanicsUp Q) (a : Act) (w : World) (hL : Lgn lb x w) (hA : Fr 427 a [(76, .int .u32 x.t0), (80, .int .u32 x.t1), (84, .int .u32 x.t2), (88, .int .u32 x.t3), (92, .int .u32 x.t4), (96, .int .u8 x.f1)]) (hB : Fr 427 a (K83 g lb v1 v2 v3 v4 v5 v6 v7 v8 v9 v10)) (fuel : Nat)
    (h : ∀ a', Fr 427 a' [(76, .int .u32 x.t0), (80, .int .u32 x.t1), (84, .int .u32 x.t2), (88, .int .u32 x.t3), (92, .int .u32 x.t4), (96, .int .u8 x.f1), (100, .int .u8 x.f2), (104, .int .u8 x.f3), (108, .int .u8 x.f4), (112, .int .i32 x.off), (116, .int .u32 x.lcid), (120, .string x.s0)] → Fr 427 a' (K83 g lb v1 v2 v3 v4 v5 v6 v7 v8 v9 v10) → wpAnyH Try.prog .any ops83 Q (Lgn lb x) fuel (lst 117 281474976710655) a' w) : wpAnyH Try.prog .any ops83 Q (Lgn lb x) (fuel + 24) (lst 117 16777215) a w := by
  refine tk83 hQ (i := 24) (d := 97) (N' := 33554431) (v := .pointer (some ⟨lb, 0, none⟩)) ok83_24 (by kernel_rfl) (by decide) rfl hA hB rfl ?_ hL ?_
  · intro W hSw; have e1 := hB.eval 1 rfl; have ho : op83 24 = op83 24 := rfl; conv at ho => rhs; whnf
    rw [ho]; go_simp; first | done | with_reducible rfl | rfl
  intro a1 hA1 hB1
  clear hA hB
  refine tk83 hQ (i := 25) (d := 98) (N' := 67108863) (v := .pointer (some ⟨lb, 0, none⟩)) ok83_25 (by kernel_rfl) (by decide) rfl hA1 hB1 rfl ?_ hL ?_
  · intro W hSw; have e97 := hA1.eval 97 rfl; have ho : op83 25 = op83 25 := rfl; conv at ho => rhs; whnf
    rw [ho]; go_simp; first | done | with_reducible rfl | rfl
  intro a2 hA2 hB2
  clear hA1 hB1
  refine tk83 hQ (i := 26) (d := 99) (N' := 134217727) (v := .pointer (some ⟨lb, 6, none⟩)) ok83_26 (by kernel_rfl) (by decide) rfl hA2 hB2 rfl ?_ hL ?_
  · intro W hSw; have e98 := hA2.eval 98 rfl; have ho : op83 26 = op83 26 := rfl; conv at ho => rhs; whnf
    rw [ho]; go_simp; first | done | with_reducible rfl | rfl
  intro a3 hA3 hB3
  clear hA2 hB2
  refine tk83 hQ (i := 27) (d := 100) (N' := 268435455) (v := .int .u8 x.f2) ok83_27 (by kernel_rfl) (by decide) rfl hA3 hB3 rfl ?_ hL ?_
  · intro W hSw; have q0 := hSw.c6; have e99 := hA3.eval 99 rfl; have ho : op83 27 = op83 27 := rfl; conv at ho => rhs; whnf
    rw [ho]; go_simp; first | done | with_reducible rfl | rfl
  intro a4 hA4 hB4
  clear hA3 hB3
  refine tk83 hQ (i := 28) (d := 101) (N' := 536870911) (v := .pointer (some ⟨lb, 0, none⟩)) ok83_28 (by kernel_rfl) (by decide) rfl hA4 hB4 rfl ?_ hL ?_
  · intro W hSw; have e1 := hB4.eval 1 rfl; have ho : op83 28 = op83 28 := rfl; conv at ho => rhs; whnf
    rw [ho]; go_simp; first | done | with_reducible rfl | rfl
  intro a5 hA5 hB5
  clear hA4 hB4
  refine tk83 hQ (i := 29) (d := 102) (N' := 1073741823) (v := .pointer (some ⟨lb, 0, none⟩)) ok83_29 (by kernel_rfl) (by decide) rfl hA5 hB5 rfl ?_ hL ?_
  · intro W hSw; have e101 := hA5.eval 101 rfl; have ho : op83 29 = op83 29 := rfl; conv at ho => rhs; whnf
    rw [ho]; go_simp; first | done | with_reducible rfl | rfl
  intro a6 hA6 hB6
  clear hA5 hB5
  refine tk83 hQ (i := 30) (d := 103) (N' := 2147483647) (v := .pointer (some ⟨lb, 7, none⟩)) ok83_30 (by kernel_rfl) (by decide) rfl hA6 hB6 rfl ?_ hL ?_
  · intro W hSw; have e102 := hA6.eval 102 rfl; have ho : op83 30 = op83 30 := rfl; conv at ho => rhs; whnf
    rw [ho]; go_simp; first | done | with_reducible rfl | rfl
  intro a7 hA7 hB7
  clear hA6 hB6
  refine tk83 hQ (i := 31) (d := 104) (N' := 4294967295) (v := .int .u8 x.f3) ok83_31 (by kernel_rfl) (by decide) rfl hA7 hB7 rfl ?_ hL ?_
  · intro W hSw; have q0 := hSw.c7; have e103 := hA7.eval 103 rfl; have ho : op83 31 = op83 31 := rfl; conv at ho => rhs; whnf
    rw [ho]; go_simp; first | done | with_reducible rfl | rfl
  intro a8 hA8 hB8
  clear hA7 hB7
  refine tk83 hQ (i := 32) (d := 105) (N' := 8589934591) (v := .pointer (some ⟨lb, 0, none⟩)) ok83_32 (by kernel_rfl) (by decide) rfl hA8 hB8 rfl ?_ hL ?_
  · intro W hSw; have e1 := hB8.eval 1 rfl; have ho : op83 32 = op83 32 := rfl; conv at ho => rhs; whnf
    rw [ho]; go_simp; first | done | with_reducible rfl | rfl
  intro a9 hA9 hB9
  clear hA8 hB8
  refine tk83 hQ (i := 33) (d := 106) (N' := 17179869183) (v := .pointer (some ⟨lb, 0, none⟩)) ok83_33 (by kernel_rfl) (by decide) rfl hA9 hB9 rfl ?_ hL ?_
  · intro W hSw; have e105 := hA9.eval 105 rfl; have ho : op83 33 = op83 33 := rfl; conv at ho => rhs; whnf
    rw [ho]; go_simp; first | done | with_reducible rfl | rfl
  intro a10 hA10 hB10
  clear hA9 hB9
  refine tk83 hQ (i := 34) (d := 107) (N' := 34359738367) (v := .pointer (some ⟨lb, 8, none⟩)) ok83_34 (by kernel_rfl) (by decide) rfl hA10 hB10 rfl ?_ hL ?_
  · intro W hSw; have e106 := hA10.eval 106 rfl; have ho : op83 34 = op83 34 := rfl; conv at ho => rhs; whnf
    rw [ho]; go_simp; first | done | with_reducible rfl | rfl
  intro a11 hA11 hB11
  clear hA10 hB10
  refine tk83 hQ (i := 35) (d := 108) (N' := 68719476735) (v := .int .u8 x.f4) ok83_35 (by kernel_rfl) (by decide) rfl hA11 hB11 rfl ?_ hL ?_
  · intro W hSw; have q0 := hSw.c8; have e107 := hA11.eval 107 rfl; have ho : op83 35 = op83 35 := rfl; conv at ho => rhs; whnf
    rw [ho]; go_simp; first | done | with_reducible rfl | rfl
  intro a12 hA12 hB12
  clear hA11 hB11
  refine tk83 hQ (i := 36) (d := 109) (N' := 137438953471) (v := .pointer (some ⟨lb, 0, none⟩)) ok83_36 (by kernel_rfl) (by decide) rfl hA12 hB12 rfl ?_ hL ?_
  · intro W hSw; have e1 := hB12.eval 1 rfl; have ho : op83 36 = op83 36 := rfl; conv at ho => rhs; whnf
    rw [ho]; go_simp; first | done | with_reducible rfl | rfl
  intro a13 hA13 hB13
  clear hA12 hB12
  refine tk83 hQ (i := 37) (d := 110) (N' := 274877906943) (v := .pointer (some ⟨lb, 0, none⟩)) ok83_37 (by kernel_rfl) (by decide) rfl hA13 hB13 rfl ?_ hL ?_
  · intro W hSw; have e109 := hA13.eval 109 rfl; have ho : op83 37 = op83 37 := rfl; conv at ho => rhs; whnf
    rw [ho]; go_simp; first | done | with_reducible rfl | rfl
  intro a14 hA14 hB14
  clear hA13 hB13
  refine tk83 hQ (i := 38) (d := 111) (N' := 549755813887) (v := .pointer (some ⟨lb, 9, none⟩)) ok83_38 (by kernel_rfl) (by decide) rfl hA14 hB14 rfl ?_ hL ?_
  · intro W hSw; have e110 := hA14.eval 110 rfl; have ho : op83 38 = op83 38 := rfl; conv at ho => rhs; whnf
    rw [ho]; go_simp; first | done | with_reducible rfl | rfl
  intro a15 hA15 hB15
  clear hA14 hB14
  refine tk83 hQ (i := 39) (d := 112) (N' := 1099511627775) (v := .int .i32 x.off) ok83_39 (by kernel_rfl) (by decide) rfl hA15 hB15 rfl ?_ hL ?_
  · intro W hSw; have q0 := hSw.c9; have e111 := hA15.eval 111 rfl; have ho : op83 39 = op83 39 := rfl; conv at ho => rhs; whnf
    rw [ho]; go_simp; first | done | with_reducible rfl | rfl
  intro a16 hA16 hB16
  clear hA15 hB15
  refine tk83 hQ (i := 40) (d := 113) (N' := 2199023255551) (v := .pointer (some ⟨lb, 0, none⟩)) ok83_40 (by kernel_rfl) (by decide) rfl hA16 hB16 rfl ?_ hL ?_
  · intro W hSw; have e1 := hB16.eval 1 rfl; have ho : op83 40 = op83 40 := rfl; conv at ho => rhs; whnf
    rw [ho]; go_simp; first | done | with_reducible rfl | rfl
  intro a17 hA17 hB17
  clear hA16 hB16
  refine tk83 hQ (i := 41) (d := 114) (N' := 4398046511103) (v := .pointer (some ⟨lb, 0, none⟩)) ok83_41 (by kernel_rfl) (by decide) rfl hA17 hB17 rfl ?_ hL ?_
  · intro W hSw; have e113 := hA17.eval 113 rfl; have ho : op83 41 = op83 41 := rfl; conv at ho => rhs; whnf
    rw [ho]; go_simp; first | done | with_reducible rfl | rfl
  intro a18 hA18 hB18
  clear hA17 hB17
  refine tk83 hQ (i := 42) (d := 115) (N' := 8796093022207) (v := .pointer (some ⟨lb, 10, none⟩)) ok83_42 (by kernel_rfl) (by decide) rfl hA18 hB18 rfl ?_ hL ?_
  · intro W hSw; have e114 := hA18.eval 114 rfl; have ho : op83 42 = op83 42 := rfl; conv at ho => rhs; whnf
    rw [ho]; go_simp; first | done | with_reducible rfl | rfl
  intro a19 hA19 hB19
  clear hA18 hB18
  refine tk83 hQ (i := 43) (d := 116) (N' := 17592186044415) (v := .int .u32 x.lcid) ok83_43 (by kernel_rfl) (by decide) rfl hA19 hB19 rfl ?_ hL ?_
  · intro W hSw; have q0 := hSw.c10; have e115 := hA19.eval 115 rfl; have ho : op83 43 = op83 43 := rfl; conv at ho => rhs; whnf
    rw [ho]; go_simp; first | done | with_reducible rfl | rfl
  intro a20 hA20 hB20
  clear hA19 hB19
  refine tk83 hQ (i := 44) (d := 117) (N' := 35184372088831) (v := .pointer (some ⟨lb, 0, none⟩)) ok83_44 (by kernel_rfl) (by decide) rfl hA20 hB20 rfl ?_ hL ?_
  · intro W hSw; have e1 := hB20.eval 1 rfl; have ho : op83 44 = op83 44 := rfl; conv at ho => rhs; whnf
    rw [ho]; go_simp; first | done | with_reducible rfl | rfl
  intro a21 hA21 hB21
  clear hA20 hB20
  refine tk83 hQ (i := 45) (d := 118) (N' := 70368744177663) (v := .pointer (some ⟨lb, 0, none⟩)) ok83_45 (by kernel_rfl) (by decide) rfl hA21 hB21 rfl ?_ hL ?_
  · intro W hSw; have e117 := hA21.eval 117 rfl; have ho : op83 45 = op83 45 := rfl; conv at ho => rhs; whnf
    rw [ho]; go_simp; first | done | with_reducible rfl | rfl
  intro a22 hA22 hB22
  clear hA21 hB21
  refine tk83 hQ (i := 46) (d := 119) (N' := 140737488355327) (v := .pointer (some ⟨lb, 11, none⟩)) ok83_46 (by kernel_rfl) (by decide) rfl hA22 hB22 rfl ?_ hL ?_
  · intro W hSw; have e118 := hA22.eval 118 rfl; have ho : op83 46 = op83 46 := rfl; conv at ho => rhs; whnf
    rw [ho]; go_simp; first | done | with_reducible rfl | rfl
  intro a23 hA23 hB23
  clear hA22 hB22
  refine tk83 hQ (i := 47) (d := 120) (N' := 281474976710655) (v := .string x.s0) ok83_47 (by kernel_rfl) (by decide) rfl hA23 hB23 rfl ?_ hL ?_
  · intro W hSw; have q0 := hSw.c11; have e119 := hA23.eval 119 rfl; have ho : op83 47 = op83 47 := rfl; conv at ho => rhs; whnf
    rw [ho]; go_simp; first | done | with_reducible rfl | rfl
  intro a24 hA24 hB24
  clear hA23 hB23
  exact h _ (Fr.of hA24.size hA24.defs (by repeat (first | exact List.forall_mem_nil _ | refine List.forall_mem_cons.2 ⟨hA24.has _ _ rfl, ?_⟩))) hB24

set_option maxRecDepth 100000 in
set_option maxHeartbeats 0 in
theorem loads83_2 (g lb : Nat) (x : Lg) (v1 v2 v3 v4 v5 v6 v7 v8 v9 v10 : Value) {Q : Exit → Act → World → Prop} (hQ : PanicsUp Q) (a : Act) (w : World) (hL : Lgn lb x w) (hA : Fr 427 a [(76, .int .u32 x.t0), (80, .int .u32 x.t1), (84, .int .u32 x.t2), (88, .int .u32 x.t3), (92, .int .u32 x.t4), (96, .int .u8 x.f1), (100, .int .u8 x.f2), (104, .int .u8 x.f3), (108, .int .u8 x.f4), (112, .int .i32 x.off), (116, .int .u32 x.lcid), (120, .string x.s0)]) (hB : Fr 427 a (K83 g lb v1 v2 v3 v4 v5 v6 v7 v8 v9 v10)) (fuel : Nat)
    (h : ∀ a', Fr 427 a' [(76, .int .u32 x.t0), (80, .int .u32 x.t1), (84, .int .u32 x.t2), (88, .int .u32 x.t3), (92, .int .u32 x.t4), (96, .int .u8 x.f1), (100, .int .u8 x.f2), (104, .int .u8 x.f3), (108, .int .u8 x.f4), (112, .int .i32 x.off), (116, .int .u32 x.lcid), (120, .string x.s0), (126, .string x.s1), (132, .string x.s2), (138, .string x.s3), (144, .string x.s4), (150, .string x.s5), (156, .string x.s6)] → Fr 427 a' (K83 g lb v1 v2 v3 v4 v5 v6 v7 v8 v9 v10) → wpAnyH Try.prog .any ops83 Q (Lgn lb x) fuel (lst 117 18421726775093467184889855) a' w) : wpAnyH Try.prog .any ops83 Q (Lgn lb x) (fuel + 24) (lst 117 281474976710655) a w := by
  refine tk83 hQ (i := 50) (d := 123) (N' := 1407374883553279) (v := .pointer (some ⟨lb, 0, none⟩)) ok83_48 (by kernel_rfl) (by decide) rfl hA hB rfl ?_ hL ?_
  · intro W hSw; have e1 := hB.eval 1 rfl; have ho : op83 50 = op83 50 := rfl; conv at ho => rhs; whnf
    rw [ho]; go_simp; first | done | with_reducible rfl | rfl
  intro a1 hA1 hB1
  clear hA hB
  refine tk83 hQ (i := 51) (d := 124) (N' := 3659174697238527) (v := .pointer (some ⟨lb, 0, none⟩)) ok83_49 (by kernel_rfl) (by decide) rfl hA1 hB1 rfl ?_ hL ?_
  · intro W hSw; have e123 := hA1.eval 123 rfl; have ho : op83 51 = op83 51 := rfl; conv at ho => rhs; whnf
    rw [ho]; go_simp; first | done | with_reducible rfl | rfl
  intro a2 hA2 hB2
  clear hA1 hB1
  refine tk83 hQ (i := 52) (d := 125) (N' := 8162774324609023) (v := .pointer (some ⟨lb, 12, none⟩)) ok83_50 (by kernel_rfl) (by decide) rfl hA2 hB2 rfl ?_ hL ?_
  · intro W hSw; have e124 := hA2.eval 124 rfl; have ho : op83 52 = op83 52 := rfl; conv at ho => rhs; whnf
    rw [ho]; go_simp; first | done | with_reducible rfl | rfl
  intro a3 hA3 hB3
  clear hA2 hB2
  refine tk83 hQ (i := 53) (d := 126) (N' := 17169973579350015) (v := .string x.s1) ok83_51 (by kernel_rfl) (by decide) rfl hA3 hB3 rfl ?_ hL ?_
  · intro W hSw; have q0 := hSw.c12; have e125 := hA3.eval 125 rfl; have ho : op83 53 = op83 53 := rfl; conv at ho => rhs; whnf
    rw [ho]; go_simp; first | done | with_reducible rfl | rfl
  intro a4 hA4 hB4
  clear hA3 hB3
  refine tk83 hQ (i := 56) (d := 129) (N' := 89227567617277951) (v := .pointer (some ⟨lb, 0, none⟩)) ok83_52 (by kernel_rfl) (by decide) rfl hA4 hB4 rfl ?_ hL ?_
  · intro W hSw; have e1 := hB4.eval 1 rfl; have ho : op83 56 = op83 56 := rfl; conv at ho => rhs; whnf
    rw [ho]; go_simp; first | done | with_reducible rfl | rfl
  intro a5 hA5 hB5
  clear hA4 hB4
  refine tk83 hQ (i := 57) (d := 130) (N' := 233342755693133823) (v := .pointer (some ⟨lb, 0, none⟩)) ok83_53 (by kernel_rfl) (by decide) rfl hA5 hB5 rfl ?_ hL ?_
  · intro W hSw; have e129 := hA5.eval 129 rfl; have ho : op83 57 = op83 57 := rfl; conv at ho => rhs; whnf
    rw [ho]; go_simp; first | done | with_reducible rfl | rfl
  intro a6 hA6 hB6
  clear hA5 hB5
  refine tk83 hQ (i := 58) (d := 131) (N' := 521573131844845567) (v := .pointer (some ⟨lb, 13, none⟩)) ok83_54 (by kernel_rfl) (by decide) rfl hA6 hB6 rfl ?_ hL ?_
  · intro W hSw; have e130 := hA6.eval 130 rfl; have ho : op83 58 = op83 58 := rfl; conv at ho => rhs; whnf
    rw [ho]; go_simp; first | done | with_reducible rfl | rfl
  intro a7 hA7 hB7
  clear hA6 hB6
  refine tk83 hQ (i := 59) (d := 132) (N' := 1098033884148269055) (v := .string x.s2) ok83_55 (by kernel_rfl) (by decide) rfl hA7 hB7 rfl ?_ hL ?_
  · intro W hSw; have q0 := hSw.c13; have e131 := hA7.eval 131 rfl; have ho : op83 59 = op83 59 := rfl; conv at ho => rhs; whnf
    rw [ho]; go_simp; first | done | with_reducible rfl | rfl
  intro a8 hA8 hB8
  clear hA7 hB7
  refine tk83 hQ (i := 62) (d := 135) (N' := 5709719902575656959) (v := .pointer (some ⟨lb, 0, none⟩)) ok83_56 (by kernel_rfl) (by decide) rfl hA8 hB8 rfl ?_ hL ?_
  · intro W hSw; have e1 := hB8.eval 1 rfl; have ho : op83 62 = op83 62 := rfl; conv at ho => rhs; whnf
    rw [ho]; go_simp; first | done | with_reducible rfl | rfl
  intro a9 hA9 hB9
  clear hA8 hB8
  refine tk83 hQ (i := 63) (d := 136) (N' := 14933091939430432767) (v := .pointer (some ⟨lb, 0, none⟩)) ok83_57 (by kernel_rfl) (by decide) rfl hA9 hB9 rfl ?_ hL ?_
  · intro W hSw; have e135 := hA9.eval 135 rfl; have ho : op83 63 = op83 63 := rfl; conv at ho => rhs; whnf
    rw [ho]; go_simp; first | done | with_reducible rfl | rfl
  intro a10 hA10 hB10
  clear hA9 hB9
  refine tk83 hQ (i := 64) (d := 137) (N' := 33379836013139984383) (v := .pointer (some ⟨lb, 14, none⟩)) ok83_58 (by kernel_rfl) (by decide) rfl hA10 hB10 rfl ?_ hL ?_
  · intro W hSw; have e136 := hA10.eval 136 rfl; have ho : op83 64 = op83 64 := rfl; conv at ho => rhs; whnf
    rw [ho]; go_simp; first | done | with_reducible rfl | rfl
  intro a11 hA11 hB11
  clear hA10 hB10
  refine tk83 hQ (i := 65) (d := 138) (N' := 70273324160559087615) (v := .string x.s3) ok83_59 (by kernel_rfl) (by decide) rfl hA11 hB11 rfl ?_ hL ?_
  · intro W hSw; have q0 := hSw.c14; have e137 := hA11.eval 137 rfl; have ho : op83 65 = op83 65 := rfl; conv at ho => rhs; whnf
    rw [ho]; go_simp; first | done | with_reducible rfl | rfl
  intro a12 hA12 hB12
  clear hA11 hB11
  refine tk83 hQ (i := 68) (d := 141) (N' := 365421229339911913471) (v := .pointer (some ⟨lb, 0, none⟩)) ok83_60 (by kernel_rfl) (by decide) rfl hA12 hB12 rfl ?_ hL ?_
  · intro W hSw; have e1 := hB12.eval 1 rfl; have ho : op83 68 = op83 68 := rfl; conv at ho => rhs; whnf
    rw [ho]; go_simp; first | done | with_reducible rfl | rfl
  intro a13 hA13 hB13
  clear hA12 hB12
  refine tk83 hQ (i := 69) (d := 142) (N' := 955717039698617565183) (v := .pointer (some ⟨lb, 0, none⟩)) ok83_61 (by kernel_rfl) (by decide) rfl hA13 hB13 rfl ?_ hL ?_
  · intro W hSw; have e141 := hA13.eval 141 rfl; have ho : op83 69 = op83 69 := rfl; conv at ho => rhs; whnf
    rw [ho]; go_simp; first | done | with_reducible rfl | rfl
  intro a14 hA14 hB14
  clear hA13 hB13
  refine tk83 hQ (i := 70) (d := 143) (N' := 2136308660416028868607) (v := .pointer (some ⟨lb, 15, none⟩)) ok83_62 (by kernel_rfl) (by decide) rfl hA14 hB14 rfl ?_ hL ?_
  · intro W hSw; have e142 := hA14.eval 142 rfl; have ho : op83 70 = op83 70 := rfl; conv at ho => rhs; whnf
    rw [ho]; go_simp; first | done | with_reducible rfl | rfl
  intro a15 hA15 hB15
  clear hA14 hB14
  refine tk83 hQ (i := 71) (d := 144) (N' := 4497491901850851475455) (v := .string x.s4) ok83_63 (by kernel_rfl) (by decide) rfl hA15 hB15 rfl ?_ hL ?_
  · intro W hSw; have q0 := hSw.c15; have e143 := hA15.eval 143 rfl; have ho : op83 71 = op83 71 := rfl; conv at ho => rhs; whnf
    rw [ho]; go_simp; first | done | with_reducible rfl | rfl
  intro a16 hA16 hB16
  clear hA15 hB15
  refine tk83 hQ (i := 74) (d := 147) (N' := 23386957833329432330239) (v := .pointer (some ⟨lb, 0, none⟩)) ok83_64 (by kernel_rfl) (by decide) rfl hA16 hB16 rfl ?_ hL ?_
  · intro W hSw; have e1 := hB16.eval 1 rfl; have ho : op83 74 = op83 74 := rfl; conv at ho => rhs; whnf
    rw [ho]; go_simp; first | done | with_reducible rfl | rfl
  intro a17 hA17 hB17
  clear hA16 hB16
  refine tk83 hQ (i := 75) (d := 148) (N' := 61165889696286594039807) (v := .pointer (some ⟨lb, 0, none⟩)) ok83_65 (by kernel_rfl) (by decide) rfl hA17 hB17 rfl ?_ hL ?_
  · intro W hSw; have e147 := hA17.eval 147 rfl; have ho : op83 75 = op83 75 := rfl; conv at ho => rhs; whnf
    rw [ho]; go_simp; first | done | with_reducible rfl | rfl
  intro a18 hA18 hB18
  clear hA17 hB17
  refine tk83 hQ (i := 76) (d := 149) (N' := 136723753422200917458943) (v := .pointer (some ⟨lb, 16, none⟩)) ok83_66 (by kernel_rfl) (by decide) rfl hA18 hB18 rfl ?_ hL ?_
  · intro W hSw; have e148 := hA18.eval 148 rfl; have ho : op83 76 = op83 76 := rfl; conv at ho => rhs; whnf
    rw [ho]; go_simp; first | done | with_reducible rfl | rfl
  intro a19 hA19 hB19
  clear hA18 hB18
  refine tk83 hQ (i := 77) (d := 150) (N' := 287839480874029564297215) (v := .string x.s5) ok83_67 (by kernel_rfl) (by decide) rfl hA19 hB19 rfl ?_ hL ?_
  · intro W hSw; have q0 := hSw.c16; have e149 := hA19.eval 149 rfl; have ho : op83 77 = op83 77 := rfl; conv at ho => rhs; whnf
    rw [ho]; go_simp; first | done | with_reducible rfl | rfl
  intro a20 hA20 hB20
  clear hA19 hB19
  refine tk83 hQ (i := 80) (d := 153) (N' := 1496765300488658739003391) (v := .pointer (some ⟨lb, 0, none⟩)) ok83_68 (by kernel_rfl) (by decide) rfl hA20 hB20 rfl ?_ hL ?_
  · intro W hSw; have e1 := hB20.eval 1 rfl; have ho : op83 80 = op83 80 := rfl; conv at ho => rhs; whnf
    rw [ho]; go_simp; first | done | with_reducible rfl | rfl
  intro a21 hA21 hB21
  clear hA20 hB20
  refine tk83 hQ (i := 81) (d := 154) (N' := 3914616939717917088415743) (v := .pointer (some ⟨lb, 0, none⟩)) ok83_69 (by kernel_rfl) (by decide) rfl hA21 hB21 rfl ?_ hL ?_
  · intro W hSw; have e153 := hA21.eval 153 rfl; have ho : op83 81 = op83 81 := rfl; conv at ho => rhs; whnf
    rw [ho]; go_simp; first | done | with_reducible rfl | rfl
  intro a22 hA22 hB22
  clear hA21 hB21
  refine tk83 hQ (i := 82) (d := 155) (N' := 8750320218176433787240447) (v := .pointer (some ⟨lb, 17, none⟩)) ok83_70 (by kernel_rfl) (by decide) rfl hA22 hB22 rfl ?_ hL ?_
  · intro W hSw; have e154 := hA22.eval 154 rfl; have ho : op83 82 = op83 82 := rfl; conv at ho => rhs; whnf
    rw [ho]; go_simp; first | done | with_reducible rfl | rfl
  intro a23 hA23 hB23
  clear hA22 hB22
  refine tk83 hQ (i := 83) (d := 156) (N' := 18421726775093467184889855) (v := .string x.s6) ok83_71 (by kernel_rfl) (by decide) rfl hA23 hB23 rfl ?_ hL ?_
  · intro W hSw; have q0 := hSw.c17; have e155 := hA23.eval 155 rfl; have ho : op83 83 = op83 83 := rfl; conv at ho => rhs; whnf
    rw [ho]; go_simp; first | done | with_reducible rfl | rfl
  intro a24 hA24 hB24
  clear hA23 hB23
  exact h _ (Fr.of hA24.size hA24.defs (by repeat (first | exact List.forall_mem_nil _ | refine List.forall_mem_cons.2 ⟨hA24.has _ _ rfl, ?_⟩))) hB24

set_option maxRecDepth 100000 in
set_option maxHeartbeats 0 in
theorem loads83_3 (g lb : Nat) (x : Lg) (v1 v2 v3 v4 v5 v6 v7 v8 v9 v10 : Value) {Q : Exit → Act → World → Prop} (hQ : PanicsUp Q) (a : Act) (w : World) (hL : Lgn lb x w) (hA : Fr 427 a [(76, .int .u32 x.t0), (80, .int .u32 x.t1), (84, .int .u32 x.t2), (88, .int .u32 x.t3), (92, .int .u32 x.t4), (96, .int .u8 x.f1), (100, .int .u8 x.f2), (104, .int .u8 x.f3), (108, .int .u8 x.f4), (112, .int .i32 x.off), (116, .int .u32 x.lcid), (120, .string x.s0), (126, .string x.s1), (132, .string x.s2), (138, .string x.s3), (144, .string x.s4), (150, .string x.s5), (156, .string x.s6)]) (hB : Fr 427 a (K83 g lb v1 v2 v3 v4 v5 v6 v7 v8 v9 v10)) (fuel : Nat)
    (h : ∀ a', Fr 427 a' [(76, .int .u32 x.t0), (80, .int .u32 x.t1), (84, .int .u32 x.t2), (88, .int .u32 x.t3), (92, .int .u32 x.t4), (96, .int .u8 x.f1), (100, .int .u8 x.f2), (104, .int .u8 x.f3), (108, .int .u8 x.f4), (112, .int .i32 x.off), (116, .int .u32 x.lcid), (120, .string x.s0), (126, .string x.s1), (132, .string x.s2), (138, .string x.s3), (144, .string x.s4), (150, .string x.s5), (156, .string x.s6), (162, .string x.s7), (168, .agg #[.int .u8 0, .int .u8 0, .int .u8 0, .int .u8 0, .int .u8 0, .int .u8 0]), (174, .int .u16 0), (178, .string em), (184, .string em)] → Fr 427 a' (K83 g lb v1 v2 v3 v4 v5 v6 v7 v8 v9 v10) → wpAnyH Try.prog .any ops83 Q (Lgn lb x) fuel (lst 117 4948904170521364047059504620109823) a' w) : wpAnyH Try.prog .any ops83 Q (Lgn lb x) (fuel + 22) (lst 117 18421726775093467184889855) a w := by
  refine tk83 hQ (i := 86) (d := 159) (N' := 95792979230429734366085119) (v := .pointer (some ⟨lb, 0, none⟩)) ok83_72 (by kernel_rfl) (by decide) rfl hA hB rfl ?_ hL ?_
  · intro W hSw; have e1 := hB.eval 1 rfl; have ho : op83 86 = op83 86 := rfl; conv at ho => rhs; whnf
    rw [ho]; go_simp; first | done | with_reducible rfl | rfl
  intro a1 hA1 hB1
  clear hA hB
  refine tk83 hQ (i := 87) (d := 160) (N' := 250535484141102268728475647) (v := .pointer (some ⟨lb, 0, none⟩)) ok83_73 (by kernel_rfl) (by decide) rfl hA1 hB1 rfl ?_ hL ?_
  · intro W hSw; have e159 := hA1.eval 159 rfl; have ho : op83 87 = op83 87 := rfl; conv at ho => rhs; whnf
    rw [ho]; go_simp; first | done | with_reducible rfl | rfl
  intro a2 hA2 hB2
  clear hA1 hB1
  refine tk83 hQ (i := 88) (d := 161) (N' := 560020493962447337453256703) (v := .pointer (some ⟨lb, 18, none⟩)) ok83_74 (by kernel_rfl) (by decide) rfl hA2 hB2 rfl ?_ hL ?_
  · intro W hSw; have e160 := hA2.eval 160 rfl; have ho : op83 88 = op83 88 := rfl; conv at ho => rhs; whnf
    rw [ho]; go_simp; first | done | with_reducible rfl | rfl
  intro a3 hA3 hB3
  clear hA2 hB2
  refine tk83 hQ (i := 89) (d := 162) (N' := 1178990513605137474902818815) (v := .string x.s7) ok83_75 (by kernel_rfl) (by decide) rfl hA3 hB3 rfl ?_ hL ?_
  · intro W hSw; have q0 := hSw.c18; have e161 := hA3.eval 161 rfl; have ho : op83 89 = op83 89 := rfl; conv at ho => rhs; whnf
    rw [ho]; go_simp; first | done | with_reducible rfl | rfl
  intro a4 hA4 hB4
  clear hA3 hB3
  refine tk83 hQ (i := 92) (d := 165) (N' := 6130750670746658574499315711) (v := .pointer (some ⟨lb, 0, none⟩)) ok83_76 (by kernel_rfl) (by decide) rfl hA4 hB4 rfl ?_ hL ?_
  · intro W hSw; have e1 := hB4.eval 1 rfl; have ho : op83 92 = op83 92 := rfl; conv at ho => rhs; whnf
    rw [ho]; go_simp; first | done | with_reducible rfl | rfl
  intro a5 hA5 hB5
  clear hA4 hB4
  refine tk83 hQ (i := 93) (d := 166) (N' := 16034270985029700773692309503) (v := .pointer (some ⟨lb, 0, none⟩)) ok83_77 (by kernel_rfl) (by decide) rfl hA5 hB5 rfl ?_ hL ?_
  · intro W hSw; have e165 := hA5.eval 165 rfl; have ho : op83 93 = op83 93 := rfl; conv at ho => rhs; whnf
    rw [ho]; go_simp; first | done | with_reducible rfl | rfl
  intro a6 hA6 hB6
  clear hA5 hB5
  refine tk83 hQ (i := 94) (d := 167) (N' := 35841311613595785172078297087) (v := .pointer (some ⟨lb, 19, none⟩)) ok83_78 (by kernel_rfl) (by decide) rfl hA6 hB6 rfl ?_ hL ?_
  · intro W hSw; have e166 := hA6.eval 166 rfl; have ho : op83 94 = op83 94 := rfl; conv at ho => rhs; whnf
    rw [ho]; go_simp; first | done | with_reducible rfl | rfl
  intro a7 hA7 hB7
  clear hA6 hB6
  refine tk83 hQ (i := 95) (d := 168) (N' := 75455392870727953968850272255) (v := .agg #[.int .u8 0, .int .u8 0, .int .u8 0, .int .u8 0, .int .u8 0, .int .u8 0]) ok83_79 (by kernel_rfl) (by decide) rfl hA7 hB7 rfl ?_ hL ?_
  · intro W hSw; have q0 := hSw.d0; have q1 := hSw.d1; have q2 := hSw.d2; have q3 := hSw.d3; have q4 := hSw.d4; have q5 := hSw.d5; have e167 := hA7.eval 167 rfl; have ho : op83 95 = op83 95 := rfl; conv at ho => rhs; whnf
    rw [ho]; go_simp; first | done | with_reducible rfl | rfl
  intro a8 hA8 hB8
  clear hA7 hB7
  refine tk83 hQ (i := 96) (d := 169) (N' := 154683555384992291562394222591) (v := .pointer (some ⟨lb, 0, none⟩)) ok83_80 (by kernel_rfl) (by decide) rfl hA8 hB8 rfl ?_ hL ?_
  · intro W hSw; have e1 := hB8.eval 1 rfl; have ho : op83 96 = op83 96 := rfl; conv at ho => rhs; whnf
    rw [ho]; go_simp; first | done | with_reducible rfl | rfl
  intro a9 hA9 hB9
  clear hA8 hB8
  refine tk83 hQ (i := 97) (d := 170) (N' := 313139880413520966749482123263) (v := .pointer (some ⟨lb, 0, none⟩)) ok83_81 (by kernel_rfl) (by decide) rfl hA9 hB9 rfl ?_ hL ?_
  · intro W hSw; have e169 := hA9.eval 169 rfl; have ho : op83 97 = op83 97 := rfl; conv at ho => rhs; whnf
    rw [ho]; go_simp; first | done | with_reducible rfl | rfl
  intro a10 hA10 hB10
  clear hA9 hB9
  refine tk83 hQ (i := 98) (d := 171) (N' := 630052530470578317123657924607) (v := .pointer (some ⟨lb, 25, none⟩)) ok83_82 (by kernel_rfl) (by decide) rfl hA10 hB10 rfl ?_ hL ?_
  · intro W hSw; have e170 := hA10.eval 170 rfl; have ho : op83 98 = op83 98 := rfl; conv at ho => rhs; whnf
    rw [ho]; go_simp; first | done | with_reducible rfl | rfl
  intro a11 hA11 hB11
  clear hA10 hB10
  refine tk83 hQ (i := 99) (d := 172) (N' := 1263877830584693017872009527295) (v := .slice none 0 0) ok83_83 (by kernel_rfl) (by decide) rfl hA11 hB11 rfl ?_ hL ?_
  · intro W hSw; have q0 := hSw.c25; have e171 := hA11.eval 171 rfl; have ho : op83 99 = op83 99 := rfl; conv at ho => rhs; whnf
    rw [ho]; go_simp; first | done | with_reducible rfl | rfl
  intro a12 hA12 hB12
  clear hA11 hB11
  refine tk83 hQ (i := 100) (d := 173) (N' := 2531528430812922419368712732671) (v := .int .i64 0) ok83_84 (by kernel_rfl) (by decide) rfl hA12 hB12 rfl ?_ hL ?_
  · intro W hSw; have e172 := hA12.eval 172 rfl; have ho : op83 100 = op83 100 := rfl; conv at ho => rhs; whnf
    rw [ho]; go_simp; first | done | with_reducible rfl | rfl
  intro a13 hA13 hB13
  clear hA12 hB12
  refine tk83 hQ (i := 101) (d := 174) (N' := 5066829631269381222362119143423) (v := .int .u16 0) ok83_85 (by kernel_rfl) (by decide) rfl hA13 hB13 rfl ?_ hL ?_
  · intro W hSw; have e173 := hA13.eval 173 rfl; have ho : op83 101 = op83 101 := rfl; conv at ho => rhs; whnf
    rw [ho]; go_simp; first | done | with_reducible rfl | rfl
  intro a14 hA14 hB14
  clear hA13 hB13
  refine tk83 hQ (i := 102) (d := 175) (N' := 10137432032182298828348931964927) (v := .pointer (some ⟨lb, 0, none⟩)) ok83_86 (by kernel_rfl) (by decide) rfl hA14 hB14 rfl ?_ hL ?_
  · intro W hSw; have e1 := hB14.eval 1 rfl; have ho : op83 102 = op83 102 := rfl; conv at ho => rhs; whnf
    rw [ho]; go_simp; first | done | with_reducible rfl | rfl
  intro a15 hA15 hB15
  clear hA14 hB14
  refine tk83 hQ (i := 103) (d := 176) (N' := 20278636834008134040322557607935) (v := .pointer (some ⟨lb, 0, none⟩)) ok83_87 (by kernel_rfl) (by decide) rfl hA15 hB15 rfl ?_ hL ?_
  · intro W hSw; have e175 := hA15.eval 175 rfl; have ho : op83 103 = op83 103 := rfl; conv at ho => rhs; whnf
    rw [ho]; go_simp; first | done | with_reducible rfl | rfl
  intro a16 hA16 hB16
  clear hA15 hB15
  refine tk83 hQ (i := 104) (d := 177) (N' := 40561046437659804464269808893951) (v := .pointer (some ⟨lb, 26, none⟩)) ok83_88 (by kernel_rfl) (by decide) rfl hA16 hB16 rfl ?_ hL ?_
  · intro W hSw; have e176 := hA16.eval 176 rfl; have ho : op83 104 = op83 104 := rfl; conv at ho => rhs; whnf
    rw [ho]; go_simp; first | done | with_reducible rfl | rfl
  intro a17 hA17 hB17
  clear hA16 hB16
  refine tk83 hQ (i := 105) (d := 178) (N' := 81125865644963145312164311465983) (v := .string em) ok83_89 (by kernel_rfl) (by decide) rfl hA17 hB17 rfl ?_ hL ?_
  · intro W hSw; have q0 := hSw.c26; have e177 := hA17.eval 177 rfl; have ho : op83 105 = op83 105 := rfl; conv at ho => rhs; whnf
    rw [ho]; go_simp; first | done | with_reducible rfl | rfl
  intro a18 hA18 hB18
  clear hA17 hB17
  refine tk83 hQ (i := 108) (d := 181) (N' := 405644419303389872095320332042239) (v := .pointer (some ⟨lb, 0, none⟩)) ok83_90 (by kernel_rfl) (by decide) rfl hA18 hB18 rfl ?_ hL ?_
  · intro W hSw; have e1 := hB18.eval 1 rfl; have ho : op83 108 = op83 108 := rfl; conv at ho => rhs; whnf
    rw [ho]; go_simp; first | done | with_reducible rfl | rfl
  intro a19 hA19 hB19
  clear hA18 hB18
  refine tk83 hQ (i := 109) (d := 182) (N' := 1054681526620243325661632373194751) (v := .pointer (some ⟨lb, 0, none⟩)) ok83_91 (by kernel_rfl) (by decide) rfl hA19 hB19 rfl ?_ hL ?_
  · intro W hSw; have e181 := hA19.eval 181 rfl; have ho : op83 109 = op83 109 := rfl; conv at ho => rhs; whnf
    rw [ho]; go_simp; first | done | with_reducible rfl | rfl
  intro a20 hA20 hB20
  clear hA19 hB19
  refine tk83 hQ (i := 110) (d := 183) (N' := 2352755741253950232794256455499775) (v := .pointer (some ⟨lb, 27, none⟩)) ok83_92 (by kernel_rfl) (by decide) rfl hA20 hB20 rfl ?_ hL ?_
  · intro W hSw; have e182 := hA20.eval 182 rfl; have ho : op83 110 = op83 110 := rfl; conv at ho => rhs; whnf
    rw [ho]; go_simp; first | done | with_reducible rfl | rfl
  intro a21 hA21 hB21
  clear hA20 hB20
  refine tk83 hQ (i := 111) (d := 184) (N' := 4948904170521364047059504620109823) (v := .string em) ok83_93 (by kernel_rfl) (by decide) rfl hA21 hB21 rfl ?_ hL ?_
  · intro W hSw; have q0 := hSw.c27; have e183 := hA21.eval 183 rfl; have ho : op83 111 = op83 111 := rfl; conv at ho => rhs; whnf
    rw [ho]; go_simp; first | done | with_reducible rfl | rfl
  intro a22 hA22 hB22
  clear hA21 hB21
  exact h _ (Fr.of hA22.size hA22.defs (by repeat (first | exact List.forall_mem_nil _ | refine List.forall_mem_cons.2 ⟨hA22.has _ _ rfl, ?_⟩))) hB22

theorem loads83 (g lb : Nat) (x : Lg) (v1 v2 v3 v4 v5 v6 v7 v8 v9 v10 : Value) {Q : Exit → Act → World → Prop} (hQ : PanicsUp Q) (a : Act) (w : World) (hL : Lgn lb x w) (hB : Fr 427 a (K83 g lb v1 v2 v3 v4 v5 v6 v7 v8 v9 v10)) (fuel : Nat)
    (h : ∀ a', Fr 427 a' (L83 x) → Fr 427 a' (K83 g lb v1 v2 v3 v4 v5 v6 v7 v8 v9 v10) → wpAnyH Try.prog .any ops83 Q (Lgn lb x) fuel (lst 117 4948904170521364047059504620109823) a' w) : wpAnyH Try.prog .any ops83 Q (Lgn lb x) (fuel + 94) (lst 117 0) a w :=
  loads83_0 g lb x v1 v2 v3 v4 v5 v6 v7 v8 v9 v10 hQ a w hL (Fr.of hB.size hB.defs (by intro p hp; cases hp)) hB (fuel + 70) fun a0 hA0 hB0 =>
  loads83_1 g lb x v1 v2 v3 v4 v5 v6 v7 v8 v9 v10 hQ a0 w hL hA0 hB0 (fuel + 46) fun a1 hA1 hB1 =>
  loads83_2 g lb x v1 v2 v3 v4 v5 v6 v7 v8 v9 v10 hQ a1 w hL hA1 hB1 (fuel + 22) fun a2 hA2 hB2 =>
  loads83_3 g lb x v1 v2 v3 v4 v5 v6 v7 v8 v9 v10 hQ a2 w hL hA2 hB2 fuel fun a3 hA3 hB3 =>
  h a3 (Fr.of hA3.size hA3.defs (by repeat (first | exact List.forall_mem_nil _ | refine List.forall_mem_cons.2 ⟨hA3.has _ _ rfl, ?_⟩))) hB3
end Go.Proofs.Ytahcaoenddapoaa
