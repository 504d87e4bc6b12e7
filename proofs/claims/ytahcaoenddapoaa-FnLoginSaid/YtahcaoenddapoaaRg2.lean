/- sendLogin's literal: the ten counts, the new block, the store. (Printed by genrg2.py.) -/
import Derived.Test.YtahcaoenddapoaaRg1
namespace Go.Proofs.Ytahcaoenddapoaa
open Go.RowKit


/-- The text s has m runes, and m is small. -/
def Cnt (s : ByteArray) (m : Nat) : Prop := (runesOf s).length = m ∧ s.size ≤ 140737488355328 ∧ (m : Int) ≤ 60
theorem count_c {s : ByteArray} {m : Nat} (h : Cnt s m) (w : World) : Calls Try.prog 106 #[.string s] w fun e w' => e = .returned (.int .i64 (m : Int)) ∧ Fresh w w' := count_at s m (Go.Lib.hid h.1) h.2.1 w

theorem wr16 {m : Nat} (h : (m : Int) ≤ 60) : IntKind.u16.wrap (m : Int) = m := by
  rw [IntKind.wrap_u16]
  omega

theorem Fr.evalT {n : Nat} {a : Act} {L : List (Nat × Value)} (h : Fr n a L) (d : Nat) {v : Value} (hl : L.lookup d = some v) : a.eval (.tmp d) = v := by
  show a.tmps.getD d undef = v
  rw [Array.getD_eq_getD_getElem?]
  exact h.eval d hl

section
variable {Q : Exit → Act → World → Prop} {S : World → Prop}
theorem one83 {i N N' fuel : Nat} {a : Act} {w : World} (hr : Region.ready .any ops83 (lst 117 N) = [i]) (hN : N ||| 2 ^ i = N') (hi : i < 117)
    (h : ∀ K' : Act → World → Prop, Shut (∀ a w, S w → (S w → wpAnyH Try.prog .any ops83 Q S fuel (lst 117 N') a w) → K' a w) → Oper.wp Try.prog (op83 i) a w K' Q) : wpAnyH Try.prog .any ops83 Q S (fuel + 1) (lst 117 N) a w :=
  reg_one (ops := ops83) (ops0 := ops83) (Go.Lib.hid rfl) (hi83 i hi) hr (by rw [lst_set, hN]) (wanted83 i hi _) h
theorem two83 {i j N Ni Nj fuel : Nat} {a : Act} {w : World} (hr : Region.ready .any ops83 (lst 117 N) = [i, j]) (hi : i < 117) (hj : j < 117) (hNi : N ||| 2 ^ i = Ni) (hNj : N ||| 2 ^ j = Nj)
    (h1 : ∀ K' : Act → World → Prop, Shut (∀ a w, S w → (S w → wpAnyH Try.prog .any ops83 Q S fuel (lst 117 Ni) a w) → K' a w) → Oper.wp Try.prog (op83 i) a w K' Q)
    (h2 : ∀ K' : Act → World → Prop, Shut (∀ a w, S w → (S w → wpAnyH Try.prog .any ops83 Q S fuel (lst 117 Nj) a w) → K' a w) → Oper.wp Try.prog (op83 j) a w K' Q) : wpAnyH Try.prog .any ops83 Q S (fuel + 1) (lst 117 N) a w :=
  reg_two (ops := ops83) (ops0 := ops83) (Go.Lib.hid rfl) (hi83 i hi) (hi83 j hj) hr (by rw [lst_set, hNi]) (by rw [lst_set, hNj]) (wanted83 i hi _) (wanted83 j hj _) h1 h2
end

/-- What is owed behind the literal. -/
def After83 (g lb : Nat) (x : Lg) (v1 v2 v3 v4 v5 v6 v7 v8 v9 v10 : Value) (m0 m1 m2 m3 m4 m5 m6 m7 : Nat) (w0 : World) (Q : Exit → Act → World → Prop) : Prop := ∀ a' w' h, Fr 427 a' ((16, h) :: K83 g lb v1 v2 v3 v4 v5 v6 v7 v8 v9 v10) → Made w0 x m0 m1 m2 m3 m4 m5 m6 m7 h w' → Q .normal a' w'

theorem rdn83_0 : Region.ready .any ops83 (lst 117 4948904170521364047059504620109823) = [48, 115] := by kernel_rfl
theorem okn83_0 : okTake 4948904170521364047340979596820479 49 = true := by kernel_rfl
theorem rda83_0 : Region.ready .any ops83 (lst 117 46487279038799985075303475253870591) = [48] := by kernel_rfl
theorem oka83_0 : okTake 46487279038799985075584950230581247 49 = true := by kernel_rfl
theorem rdn83_1 : Region.ready .any ops83 (lst 117 4948904170521364047903929550241791) = [54, 115] := by kernel_rfl
theorem okn83_1 : okTake 4948904170521364065918328059723775 55 = true := by kernel_rfl
theorem rda83_1 : Region.ready .any ops83 (lst 117 46487279038799985076147900184002559) = [54] := by kernel_rfl
theorem oka83_1 : okTake 46487279038799985094162298693484543 55 = true := by kernel_rfl
theorem rdn83_2 : Region.ready .any ops83 (lst 117 4948904170521364101947125078687743) = [60, 115] := by kernel_rfl
theorem okn83_2 : okTake 4948904170521365254868629685534719 61 = true := by kernel_rfl
theorem rda83_2 : Region.ready .any ops83 (lst 117 46487279038799985130191095712448511) = [60] := by kernel_rfl
theorem oka83_2 : okTake 46487279038799986283112600319295487 61 = true := by kernel_rfl
theorem rdn83_3 : Region.ready .any ops83 (lst 117 4948904170521367560711638899228671) = [66, 115] := by kernel_rfl
theorem okn83_3 : okTake 4948904170521441347687933737435135 67 = true := by kernel_rfl
theorem rda83_3 : Region.ready .any ops83 (lst 117 46487279038799988588955609532989439) = [66] := by kernel_rfl
theorem oka83_3 : okTake 46487279038800062375931904371195903 67 = true := by kernel_rfl
theorem rdn83_4 : Region.ready .any ops83 (lst 117 4948904170521588921640523413848063) = [72, 115] := by kernel_rfl
theorem okn83_4 : okTake 4948904170526311288123393059061759 73 = true := by kernel_rfl
theorem rda83_4 : Region.ready .any ops83 (lst 117 46487279038800209949884494047608831) = [72] := by kernel_rfl
theorem oka83_4 : okTake 46487279038804932316367363692822527 73 = true := by kernel_rfl
theorem rdn83_5 : Region.ready .any ops83 (lst 117 4948904170535756021089132349489151) = [78, 115] := by kernel_rfl
theorem okn83_5 : okTake 4948904170837987475992789643165695 79 = true := by kernel_rfl
theorem rda83_5 : Region.ready .any ops83 (lst 117 46487279038814377049333102983249919) = [78] := by kernel_rfl
theorem oka83_5 : okTake 46487279039116608504236760276926463 79 = true := by kernel_rfl
theorem rdn83_6 : Region.ready .any ops83 (lst 117 4948904171442450385800104230518783) = [84, 115] := by kernel_rfl
theorem okn83_6 : okTake 4948904190785263499634171025817599 85 = true := by kernel_rfl
theorem rda83_6 : Region.ready .any ops83 (lst 117 46487279039721071414044074864279551) = [84] := by kernel_rfl
theorem oka83_6 : okTake 46487279059063884527878141659578367 85 = true := by kernel_rfl
theorem rdn83_7 : Region.ready .any ops83 (lst 117 4948904229470889727302304616415231) = [90, 115] := by kernel_rfl
theorem okn83_7 : okTake 4948905467410929012682579515539455 91 = true := by kernel_rfl
theorem rda83_7 : Region.ready .any ops83 (lst 117 46487279097749510755546275250175999) = [90] := by kernel_rfl
theorem oka83_7 : okTake 46487280335689550040926550149300223 91 = true := by kernel_rfl
theorem rdn83_8 : Region.ready .any ops83 (lst 117 4948907943291007583443129313787903) = [106, 115] := by kernel_rfl
theorem okn83_8 : okTake 5030037581705614265138918318931967 107 = true := by kernel_rfl
theorem rda83_8 : Region.ready .any ops83 (lst 117 46487282811569628611687099947548671) = [106] := by kernel_rfl
theorem oka83_8 : okTake 46568412449984235293382888952692735 107 = true := by kernel_rfl
theorem rdn83_9 : Region.ready .any ops83 (lst 117 5192296858534827628530496329220095) = [112, 115] := by kernel_rfl
theorem okn83_9 : okTake 10384593717069655257060992658440191 113 = true := by kernel_rfl
theorem rda83_9 : Region.ready .any ops83 (lst 117 46730671726813448656774466962980863) = [112] := by kernel_rfl
theorem oka83_9 : okTake 51922968585348276285304963292200959 113 = true := by kernel_rfl
theorem okc83 : okTake 20769187434139310514121985316880383 114 = true := by kernel_rfl
theorem rdn83_10 : Region.ready .any ops83 (lst 117 41538374868278621028243970633760767) = [115] := by kernel_rfl
theorem okb83 : okTake 62307562302417931542365955950641151 114 = true := by kernel_rfl
theorem rds83 : Region.ready .any ops83 (lst 117 83076749736557242056487941267521535) = [116] := by kernel_rfl
theorem rde83 : Region.ready .any ops83 (lst 117 166153499473114484112975882535043071) = [] := by kernel_rfl

theorem wpAnyH_gen2 {P : Program} {ops : Array Oper} {Q : Exit → Act → World → Prop} {md : Region.Mode} {S : World → Prop} {n : Nat} {L B : List (Nat × Value)} {fuel : Nat} {listed : Array Bool} {a : Act} {w : World} (hA : Fr n a L) (hB : Fr n a B) {d : Nat} {v : Value} (hd : d < n) (hb : B.lookup d = none)
    (h : ∀ a', Fr n a' ((d, v) :: L) → Fr n a' B → wpAnyH P md ops Q S fuel listed a' w) : wpAnyH P md ops Q S fuel listed (a.put (some d) v) w := h _ (hA.put v hd) (hB.keep v hb)
theorem build83 (x : Lg) (m0 m1 m2 m3 m4 m5 m6 m7 : Nat) (W : World) : (Instr.build 155 #[(1, .int .u32 x.t0), (2, .int .u32 x.t1), (3, .int .u32 x.t2), (4, .int .u32 x.t3), (5, .int .u32 x.t4), (6, .int .u8 x.f1), (7, .int .u8 x.f2), (8, .int .u8 x.f3), (9, .int .u8 x.f4), (10, .int .i32 x.off), (11, .int .u32 x.lcid), (13, .int .u16 (m0 : Int)), (15, .int .u16 (m1 : Int)), (17, .int .u16 (m2 : Int)), (19, .int .u16 (m3 : Int)), (21, .int .u16 (m4 : Int)), (25, .int .u16 (m5 : Int)), (27, .int .u16 (m6 : Int)), (29, .int .u16 (m7 : Int)), (30, .agg #[.int .u8 0, .int .u8 0, .int .u8 0, .int .u8 0, .int .u8 0, .int .u8 0]), (32, .int .u16 0), (34, .int .u16 0), (36, .int .u16 0)]).run Try.prog W = .ok (.agg (hdr0 x m0 m1 m2 m3 m4 m5 m6 m7).toArray) W := by kernel_rfl
theorem exb83 (x : Lg) (m0 m1 m2 m3 m4 m5 m6 m7 : Nat) (a : Act) (hA : Fr 427 a ((186, .int .u16 0) :: (185, .int .i64 0) :: ((180, .int .u16 0) :: (179, .int .i64 0) :: ((164, .int .u16 (m7 : Int)) :: (163, .int .i64 (m7 : Int)) :: ((158, .int .u16 (m6 : Int)) :: (157, .int .i64 (m6 : Int)) :: ((152, .int .u16 (m5 : Int)) :: (151, .int .i64 (m5 : Int)) :: ((146, .int .u16 (m4 : Int)) :: (145, .int .i64 (m4 : Int)) :: ((140, .int .u16 (m3 : Int)) :: (139, .int .i64 (m3 : Int)) :: ((134, .int .u16 (m2 : Int)) :: (133, .int .i64 (m2 : Int)) :: ((128, .int .u16 (m1 : Int)) :: (127, .int .i64 (m1 : Int)) :: ((122, .int .u16 (m0 : Int)) :: (121, .int .i64 (m0 : Int)) :: (L83 x)))))))))))) (W : World) : (execOp a.eval (op83 114)).run Try.prog W = .ok (.value (.agg (hdr0 x m0 m1 m2 m3 m4 m5 m6 m7).toArray)) W := by
  have hop : (op83 114).op = .build 155 #[(1, .tmp 76), (2, .tmp 80), (3, .tmp 84), (4, .tmp 88), (5, .tmp 92), (6, .tmp 96), (7, .tmp 100), (8, .tmp 104), (9, .tmp 108), (10, .tmp 112), (11, .tmp 116), (13, .tmp 122), (15, .tmp 128), (17, .tmp 134), (19, .tmp 140), (21, .tmp 146), (25, .tmp 152), (27, .tmp 158), (29, .tmp 164), (30, .tmp 168), (32, .tmp 174), (34, .tmp 180), (36, .tmp 186)] := by kernel_rfl
  have e76 := hA.evalT 76 rfl
  have e80 := hA.evalT 80 rfl
  have e84 := hA.evalT 84 rfl
  have e88 := hA.evalT 88 rfl
  have e92 := hA.evalT 92 rfl
  have e96 := hA.evalT 96 rfl
  have e100 := hA.evalT 100 rfl
  have e104 := hA.evalT 104 rfl
  have e108 := hA.evalT 108 rfl
  have e112 := hA.evalT 112 rfl
  have e116 := hA.evalT 116 rfl
  have e122 := hA.evalT 122 rfl
  have e128 := hA.evalT 128 rfl
  have e134 := hA.evalT 134 rfl
  have e140 := hA.evalT 140 rfl
  have e146 := hA.evalT 146 rfl
  have e152 := hA.evalT 152 rfl
  have e158 := hA.evalT 158 rfl
  have e164 := hA.evalT 164 rfl
  have e168 := hA.evalT 168 rfl
  have e174 := hA.evalT 174 rfl
  have e180 := hA.evalT 180 rfl
  have e186 := hA.evalT 186 rfl
  clear hA
  have hp : (#[((1 : Nat), Operand.tmp 76), ((2 : Nat), Operand.tmp 80), ((3 : Nat), Operand.tmp 84), ((4 : Nat), Operand.tmp 88), ((5 : Nat), Operand.tmp 92), ((6 : Nat), Operand.tmp 96), ((7 : Nat), Operand.tmp 100), ((8 : Nat), Operand.tmp 104), ((9 : Nat), Operand.tmp 108), ((10 : Nat), Operand.tmp 112), ((11 : Nat), Operand.tmp 116), ((13 : Nat), Operand.tmp 122), ((15 : Nat), Operand.tmp 128), ((17 : Nat), Operand.tmp 134), ((19 : Nat), Operand.tmp 140), ((21 : Nat), Operand.tmp 146), ((25 : Nat), Operand.tmp 152), ((27 : Nat), Operand.tmp 158), ((29 : Nat), Operand.tmp 164), ((30 : Nat), Operand.tmp 168), ((32 : Nat), Operand.tmp 174), ((34 : Nat), Operand.tmp 180), ((36 : Nat), Operand.tmp 186)] : Array (Nat × Operand)).map (fun p => (p.1, a.eval p.2)) = #[(1, .int .u32 x.t0), (2, .int .u32 x.t1), (3, .int .u32 x.t2), (4, .int .u32 x.t3), (5, .int .u32 x.t4), (6, .int .u8 x.f1), (7, .int .u8 x.f2), (8, .int .u8 x.f3), (9, .int .u8 x.f4), (10, .int .i32 x.off), (11, .int .u32 x.lcid), (13, .int .u16 (m0 : Int)), (15, .int .u16 (m1 : Int)), (17, .int .u16 (m2 : Int)), (19, .int .u16 (m3 : Int)), (21, .int .u16 (m4 : Int)), (25, .int .u16 (m5 : Int)), (27, .int .u16 (m6 : Int)), (29, .int .u16 (m7 : Int)), (30, .agg #[.int .u8 0, .int .u8 0, .int .u8 0, .int .u8 0, .int .u8 0, .int .u8 0]), (32, .int .u16 0), (34, .int .u16 0), (36, .int .u16 0)] := by
    simp only [List.map_toArray, List.map_cons, List.map_nil, e76, e80, e84, e88, e92, e96, e100, e104, e108, e112, e116, e122, e128, e134, e140, e146, e152, e158, e164, e168, e174, e180, e186]
  have hb := build83 x m0 m1 m2 m3 m4 m5 m6 m7 W
  rw [← hp] at hb
  unfold execOp
  rw [hop]
  show (Sem.run Try.prog (do pure (Next.value (← Instr.build 155 _))) W) = _
  rw [Sem.run_bind, hb]
  rfl

theorem st83 (g lb : Nat) (x : Lg) (v1 v2 v3 v4 v5 v6 v7 v8 v9 v10 : Value) (m0 m1 m2 m3 m4 m5 m6 m7 : Nat) {Q : Exit → Act → World → Prop} (w0 : World) (hh : Nat) (h0 : w0.heap.size ≤ hh) (a : Act) (w : World) (hne : lb ≠ hh) (hL : Lgn lb x w) (hF : Fresh w0 w) (hT : w.there hh 0 43) (hlt : hh < w.heap.size) (hA : a.eval (.tmp 187) = .agg (hdr0 x m0 m1 m2 m3 m4 m5 m6 m7).toArray) (hB : Fr 427 a ((16, .pointer (some ⟨hh, 0, none⟩)) :: K83 g lb v1 v2 v3 v4 v5 v6 v7 v8 v9 v10)) (h : After83 g lb x v1 v2 v3 v4 v5 v6 v7 v8 v9 v10 m0 m1 m2 m3 m4 m5 m6 m7 w0 Q) :
    wpAnyH Try.prog .any ops83 Q (Lgn lb x) 1 (lst 117 83076749736557242056487941267521535) a w := by
  refine one83 (N' := 166153499473114484112975882535043071) rds83 (by kernel_rfl) (by decide) (fun K hK => ?_)
  refine wp_store_mid 155 (.tmp 16) (.tmp 187) (by kernel_rfl) hh 0 (hdr0 x m0 m1 m2 m3 m4 m5 m6 m7).toArray (hB.evalT 16 rfl) hA hT (by kernel_rfl) (by kernel_rfl) ?_
  have hd : (op83 116).dst = none := by kernel_rfl
  rw [hd]
  have hK1 := setCells_kept hh (hdr0 x m0 m1 m2 m3 m4 m5 m6 m7) 0 w
  refine hK.out _ _ (hL.kept hK1 (fun e => hne e)) (fun hL2 => ?_)
  refine reg_done (ops := ops83) (ops0 := ops83) (Go.Lib.hid rfl) (Go.Lib.hid rfl) rde83 (h _ _ _ hB ⟨hh, rfl, h0, ?_, ?_, ?_, ?_⟩)
  · exact Nat.lt_of_lt_of_le hlt hK1.size
  · exact World.rangeAt_setCells_same w hh 0 _ (by simpa [hdr0] using hT)
  · exact World.there_setCells hT _ _ _
  · exact hF.trans hK1 (fun k hk e => by omega)

set_option maxRecDepth 100000 in
set_option maxHeartbeats 0 in
theorem fin83 (g lb : Nat) (x : Lg) (v1 v2 v3 v4 v5 v6 v7 v8 v9 v10 : Value) (m0 m1 m2 m3 m4 m5 m6 m7 : Nat) {Q : Exit → Act → World → Prop} (hQ : PanicsUp Q) (w0 : World) (hh : Nat) (h0 : w0.heap.size ≤ hh) (a : Act) (w : World) (hne : lb ≠ hh) (hL : Lgn lb x w) (hF : Fresh w0 w) (hT : w.there hh 0 43) (hlt : hh < w.heap.size) (hA : Fr 427 a ((186, .int .u16 0) :: (185, .int .i64 0) :: ((180, .int .u16 0) :: (179, .int .i64 0) :: ((164, .int .u16 (m7 : Int)) :: (163, .int .i64 (m7 : Int)) :: ((158, .int .u16 (m6 : Int)) :: (157, .int .i64 (m6 : Int)) :: ((152, .int .u16 (m5 : Int)) :: (151, .int .i64 (m5 : Int)) :: ((146, .int .u16 (m4 : Int)) :: (145, .int .i64 (m4 : Int)) :: ((140, .int .u16 (m3 : Int)) :: (139, .int .i64 (m3 : Int)) :: ((134, .int .u16 (m2 : Int)) :: (133, .int .i64 (m2 : Int)) :: ((128, .int .u16 (m1 : Int)) :: (127, .int .i64 (m1 : Int)) :: ((122, .int .u16 (m0 : Int)) :: (121, .int .i64 (m0 : Int)) :: (L83 x)))))))))))) (hB : Fr 427 a ((16, .pointer (some ⟨hh, 0, none⟩)) :: K83 g lb v1 v2 v3 v4 v5 v6 v7 v8 v9 v10)) (h : After83 g lb x v1 v2 v3 v4 v5 v6 v7 v8 v9 v10 m0 m1 m2 m3 m4 m5 m6 m7 w0 Q) :
    wpAnyH Try.prog .any ops83 Q (Lgn lb x) 2 (lst 117 62307562302417931542365955950641151) a w := by
  refine tk83 hQ (i := 114) (d := 187) (N' := 83076749736557242056487941267521535) (v := .agg (hdr0 x m0 m1 m2 m3 m4 m5 m6 m7).toArray) okb83 (by kernel_rfl) (by decide) rfl hA hB rfl (fun W _ => exb83 x m0 m1 m2 m3 m4 m5 m6 m7 a hA W) hL (fun a1 hA1 hB1 => ?_)
  exact st83 g lb x v1 v2 v3 v4 v5 v6 v7 v8 v9 v10 m0 m1 m2 m3 m4 m5 m6 m7 w0 hh h0 a1 w hne hL hF hT hlt (hA1.evalT 187 rfl) hB1 h

set_option maxRecDepth 100000 in
set_option maxHeartbeats 0 in
theorem al83_9 (g lb : Nat) (x : Lg) (v1 v2 v3 v4 v5 v6 v7 v8 v9 v10 : Value) (m0 m1 m2 m3 m4 m5 m6 m7 : Nat) {Q : Exit → Act → World → Prop} (hQ : PanicsUp Q) (w0 : World) (hh : Nat) (h0 : w0.heap.size ≤ hh) (a : Act) (w : World) (hne : lb ≠ hh) (hL : Lgn lb x w) (hF : Fresh w0 w) (hT : w.there hh 0 43) (hlt : hh < w.heap.size) (hA : Fr 427 a ((180, .int .u16 0) :: (179, .int .i64 0) :: ((164, .int .u16 (m7 : Int)) :: (163, .int .i64 (m7 : Int)) :: ((158, .int .u16 (m6 : Int)) :: (157, .int .i64 (m6 : Int)) :: ((152, .int .u16 (m5 : Int)) :: (151, .int .i64 (m5 : Int)) :: ((146, .int .u16 (m4 : Int)) :: (145, .int .i64 (m4 : Int)) :: ((140, .int .u16 (m3 : Int)) :: (139, .int .i64 (m3 : Int)) :: ((134, .int .u16 (m2 : Int)) :: (133, .int .i64 (m2 : Int)) :: ((128, .int .u16 (m1 : Int)) :: (127, .int .i64 (m1 : Int)) :: ((122, .int .u16 (m0 : Int)) :: (121, .int .i64 (m0 : Int)) :: (L83 x))))))))))) (hB : Fr 427 a ((16, .pointer (some ⟨hh, 0, none⟩)) :: K83 g lb v1 v2 v3 v4 v5 v6 v7 v8 v9 v10)) (h : After83 g lb x v1 v2 v3 v4 v5 v6 v7 v8 v9 v10 m0 m1 m2 m3 m4 m5 m6 m7 w0 Q) :
    wpAnyH Try.prog .any ops83 Q (Lgn lb x) 4 (lst 117 46730671726813448656774466962980863) a w := by
  refine one83 (N' := 51922968585348276285304963292200959) rda83_9 (by kernel_rfl) (by decide) (fun K hK => ?_)
  have ho : op83 112 = op83 112 := rfl
  conv at ho => rhs; whnf
  rw [ho]
  clear ho
  have e184 := hA.eval 184 rfl
  go_simp
  clear e184
  go_at_call 106
  refine (count_em _).mono ?_
  rintro e x1 ⟨rfl, hG⟩
  refine hK.out _ _ (hL.fresh hG) (fun hL1 => ?_)
  clear hK K
  refine wpAnyH_gen2 hA hB (d := 185) (v := .int .i64 0) (by decide) rfl (fun a1 hA1 hB1 => ?_)
  refine tk83 hQ (i := 113) (d := 186) (N' := 62307562302417931542365955950641151) (v := .int .u16 0) oka83_9 (by kernel_rfl) (by decide) rfl hA1 hB1 rfl ?_ hL1 ?_
  · intro W hSw; have e185 := hA1.eval 185 rfl; clear hSw hA hB hA1 hB1 h hQ; have ho : op83 113 = op83 113 := rfl; conv at ho => rhs; whnf
    rw [ho]; go_simp; first | done | with_reducible rfl | rfl
  clear hA hB hA1 hB1
  intro a2 hA hB
  exact fin83 g lb x v1 v2 v3 v4 v5 v6 v7 v8 v9 v10 m0 m1 m2 m3 m4 m5 m6 m7  hQ w0 hh h0 a2 x1 hne hL1 (hF.fresh hG) (hG.there (by decide) hT (fun h => h)) (Nat.lt_of_lt_of_le hlt hG.size) hA hB h

set_option maxRecDepth 100000 in
set_option maxHeartbeats 0 in
theorem al83_8 (g lb : Nat) (x : Lg) (v1 v2 v3 v4 v5 v6 v7 v8 v9 v10 : Value) (m0 m1 m2 m3 m4 m5 m6 m7 : Nat) {Q : Exit → Act → World → Prop} (hQ : PanicsUp Q) (w0 : World) (hh : Nat) (h0 : w0.heap.size ≤ hh) (a : Act) (w : World) (hne : lb ≠ hh) (hL : Lgn lb x w) (hF : Fresh w0 w) (hT : w.there hh 0 43) (hlt : hh < w.heap.size) (hA : Fr 427 a ((164, .int .u16 (m7 : Int)) :: (163, .int .i64 (m7 : Int)) :: ((158, .int .u16 (m6 : Int)) :: (157, .int .i64 (m6 : Int)) :: ((152, .int .u16 (m5 : Int)) :: (151, .int .i64 (m5 : Int)) :: ((146, .int .u16 (m4 : Int)) :: (145, .int .i64 (m4 : Int)) :: ((140, .int .u16 (m3 : Int)) :: (139, .int .i64 (m3 : Int)) :: ((134, .int .u16 (m2 : Int)) :: (133, .int .i64 (m2 : Int)) :: ((128, .int .u16 (m1 : Int)) :: (127, .int .i64 (m1 : Int)) :: ((122, .int .u16 (m0 : Int)) :: (121, .int .i64 (m0 : Int)) :: (L83 x)))))))))) (hB : Fr 427 a ((16, .pointer (some ⟨hh, 0, none⟩)) :: K83 g lb v1 v2 v3 v4 v5 v6 v7 v8 v9 v10)) (h : After83 g lb x v1 v2 v3 v4 v5 v6 v7 v8 v9 v10 m0 m1 m2 m3 m4 m5 m6 m7 w0 Q) :
    wpAnyH Try.prog .any ops83 Q (Lgn lb x) 6 (lst 117 46487282811569628611687099947548671) a w := by
  refine one83 (N' := 46568412449984235293382888952692735) rda83_8 (by kernel_rfl) (by decide) (fun K hK => ?_)
  have ho : op83 106 = op83 106 := rfl
  conv at ho => rhs; whnf
  rw [ho]
  clear ho
  have e178 := hA.eval 178 rfl
  go_simp
  clear e178
  go_at_call 106
  refine (count_em _).mono ?_
  rintro e x1 ⟨rfl, hG⟩
  refine hK.out _ _ (hL.fresh hG) (fun hL1 => ?_)
  clear hK K
  refine wpAnyH_gen2 hA hB (d := 179) (v := .int .i64 0) (by decide) rfl (fun a1 hA1 hB1 => ?_)
  refine tk83 hQ (i := 107) (d := 180) (N' := 46730671726813448656774466962980863) (v := .int .u16 0) oka83_8 (by kernel_rfl) (by decide) rfl hA1 hB1 rfl ?_ hL1 ?_
  · intro W hSw; have e179 := hA1.eval 179 rfl; clear hSw hA hB hA1 hB1 h hQ; have ho : op83 107 = op83 107 := rfl; conv at ho => rhs; whnf
    rw [ho]; go_simp; first | done | with_reducible rfl | rfl
  clear hA hB hA1 hB1
  intro a2 hA hB
  exact al83_9 g lb x v1 v2 v3 v4 v5 v6 v7 v8 v9 v10 m0 m1 m2 m3 m4 m5 m6 m7  hQ w0 hh h0 a2 x1 hne hL1 (hF.fresh hG) (hG.there (by decide) hT (fun h => h)) (Nat.lt_of_lt_of_le hlt hG.size) hA hB h

set_option maxRecDepth 100000 in
set_option maxHeartbeats 0 in
theorem al83_7 (g lb : Nat) (x : Lg) (v1 v2 v3 v4 v5 v6 v7 v8 v9 v10 : Value) (m0 m1 m2 m3 m4 m5 m6 m7 : Nat) (c7 : Cnt x.s7 m7) {Q : Exit → Act → World → Prop} (hQ : PanicsUp Q) (w0 : World) (hh : Nat) (h0 : w0.heap.size ≤ hh) (a : Act) (w : World) (hne : lb ≠ hh) (hL : Lgn lb x w) (hF : Fresh w0 w) (hT : w.there hh 0 43) (hlt : hh < w.heap.size) (hA : Fr 427 a ((158, .int .u16 (m6 : Int)) :: (157, .int .i64 (m6 : Int)) :: ((152, .int .u16 (m5 : Int)) :: (151, .int .i64 (m5 : Int)) :: ((146, .int .u16 (m4 : Int)) :: (145, .int .i64 (m4 : Int)) :: ((140, .int .u16 (m3 : Int)) :: (139, .int .i64 (m3 : Int)) :: ((134, .int .u16 (m2 : Int)) :: (133, .int .i64 (m2 : Int)) :: ((128, .int .u16 (m1 : Int)) :: (127, .int .i64 (m1 : Int)) :: ((122, .int .u16 (m0 : Int)) :: (121, .int .i64 (m0 : Int)) :: (L83 x))))))))) (hB : Fr 427 a ((16, .pointer (some ⟨hh, 0, none⟩)) :: K83 g lb v1 v2 v3 v4 v5 v6 v7 v8 v9 v10)) (h : After83 g lb x v1 v2 v3 v4 v5 v6 v7 v8 v9 v10 m0 m1 m2 m3 m4 m5 m6 m7 w0 Q) :
    wpAnyH Try.prog .any ops83 Q (Lgn lb x) 8 (lst 117 46487279097749510755546275250175999) a w := by
  refine one83 (N' := 46487280335689550040926550149300223) rda83_7 (by kernel_rfl) (by decide) (fun K hK => ?_)
  have ho : op83 90 = op83 90 := rfl
  conv at ho => rhs; whnf
  rw [ho]
  clear ho
  have e162 := hA.eval 162 rfl
  go_simp
  clear e162
  go_at_call 106
  refine (count_c c7 _).mono ?_
  rintro e x1 ⟨rfl, hG⟩
  refine hK.out _ _ (hL.fresh hG) (fun hL1 => ?_)
  clear hK K
  refine wpAnyH_gen2 hA hB (d := 163) (v := .int .i64 (m7 : Int)) (by decide) rfl (fun a1 hA1 hB1 => ?_)
  refine tk83 hQ (i := 91) (d := 164) (N' := 46487282811569628611687099947548671) (v := .int .u16 (m7 : Int)) oka83_7 (by kernel_rfl) (by decide) rfl hA1 hB1 rfl ?_ hL1 ?_
  · intro W hSw; have e163 := hA1.eval 163 rfl; have b7 := c7.2.2; have hw : IntKind.u16.wrap (m7 : Int) = m7 := wr16 b7; clear hSw hA hB hA1 hB1 h hQ; have ho : op83 91 = op83 91 := rfl; conv at ho => rhs; whnf
    rw [ho]; go_simp; first | done | with_reducible rfl | rfl
  clear hA hB hA1 hB1
  intro a2 hA hB
  exact al83_8 g lb x v1 v2 v3 v4 v5 v6 v7 v8 v9 v10 m0 m1 m2 m3 m4 m5 m6 m7  hQ w0 hh h0 a2 x1 hne hL1 (hF.fresh hG) (hG.there (by decide) hT (fun h => h)) (Nat.lt_of_lt_of_le hlt hG.size) hA hB h

set_option maxRecDepth 100000 in
set_option maxHeartbeats 0 in
theorem al83_6 (g lb : Nat) (x : Lg) (v1 v2 v3 v4 v5 v6 v7 v8 v9 v10 : Value) (m0 m1 m2 m3 m4 m5 m6 m7 : Nat) (c6 : Cnt x.s6 m6) (c7 : Cnt x.s7 m7) {Q : Exit → Act → World → Prop} (hQ : PanicsUp Q) (w0 : World) (hh : Nat) (h0 : w0.heap.size ≤ hh) (a : Act) (w : World) (hne : lb ≠ hh) (hL : Lgn lb x w) (hF : Fresh w0 w) (hT : w.there hh 0 43) (hlt : hh < w.heap.size) (hA : Fr 427 a ((152, .int .u16 (m5 : Int)) :: (151, .int .i64 (m5 : Int)) :: ((146, .int .u16 (m4 : Int)) :: (145, .int .i64 (m4 : Int)) :: ((140, .int .u16 (m3 : Int)) :: (139, .int .i64 (m3 : Int)) :: ((134, .int .u16 (m2 : Int)) :: (133, .int .i64 (m2 : Int)) :: ((128, .int .u16 (m1 : Int)) :: (127, .int .i64 (m1 : Int)) :: ((122, .int .u16 (m0 : Int)) :: (121, .int .i64 (m0 : Int)) :: (L83 x)))))))) (hB : Fr 427 a ((16, .pointer (some ⟨hh, 0, none⟩)) :: K83 g lb v1 v2 v3 v4 v5 v6 v7 v8 v9 v10)) (h : After83 g lb x v1 v2 v3 v4 v5 v6 v7 v8 v9 v10 m0 m1 m2 m3 m4 m5 m6 m7 w0 Q) :
    wpAnyH Try.prog .any ops83 Q (Lgn lb x) 10 (lst 117 46487279039721071414044074864279551) a w := by
  refine one83 (N' := 46487279059063884527878141659578367) rda83_6 (by kernel_rfl) (by decide) (fun K hK => ?_)
  have ho : op83 84 = op83 84 := rfl
  conv at ho => rhs; whnf
  rw [ho]
  clear ho
  have e156 := hA.eval 156 rfl
  go_simp
  clear e156
  go_at_call 106
  refine (count_c c6 _).mono ?_
  rintro e x1 ⟨rfl, hG⟩
  refine hK.out _ _ (hL.fresh hG) (fun hL1 => ?_)
  clear hK K
  refine wpAnyH_gen2 hA hB (d := 157) (v := .int .i64 (m6 : Int)) (by decide) rfl (fun a1 hA1 hB1 => ?_)
  refine tk83 hQ (i := 85) (d := 158) (N' := 46487279097749510755546275250175999) (v := .int .u16 (m6 : Int)) oka83_6 (by kernel_rfl) (by decide) rfl hA1 hB1 rfl ?_ hL1 ?_
  · intro W hSw; have e157 := hA1.eval 157 rfl; have b6 := c6.2.2; have hw : IntKind.u16.wrap (m6 : Int) = m6 := wr16 b6; clear hSw hA hB hA1 hB1 h hQ; have ho : op83 85 = op83 85 := rfl; conv at ho => rhs; whnf
    rw [ho]; go_simp; first | done | with_reducible rfl | rfl
  clear hA hB hA1 hB1
  intro a2 hA hB
  exact al83_7 g lb x v1 v2 v3 v4 v5 v6 v7 v8 v9 v10 m0 m1 m2 m3 m4 m5 m6 m7 c7 hQ w0 hh h0 a2 x1 hne hL1 (hF.fresh hG) (hG.there (by decide) hT (fun h => h)) (Nat.lt_of_lt_of_le hlt hG.size) hA hB h

set_option maxRecDepth 100000 in
set_option maxHeartbeats 0 in
theorem al83_5 (g lb : Nat) (x : Lg) (v1 v2 v3 v4 v5 v6 v7 v8 v9 v10 : Value) (m0 m1 m2 m3 m4 m5 m6 m7 : Nat) (c5 : Cnt x.s5 m5) (c6 : Cnt x.s6 m6) (c7 : Cnt x.s7 m7) {Q : Exit → Act → World → Prop} (hQ : PanicsUp Q) (w0 : World) (hh : Nat) (h0 : w0.heap.size ≤ hh) (a : Act) (w : World) (hne : lb ≠ hh) (hL : Lgn lb x w) (hF : Fresh w0 w) (hT : w.there hh 0 43) (hlt : hh < w.heap.size) (hA : Fr 427 a ((146, .int .u16 (m4 : Int)) :: (145, .int .i64 (m4 : Int)) :: ((140, .int .u16 (m3 : Int)) :: (139, .int .i64 (m3 : Int)) :: ((134, .int .u16 (m2 : Int)) :: (133, .int .i64 (m2 : Int)) :: ((128, .int .u16 (m1 : Int)) :: (127, .int .i64 (m1 : Int)) :: ((122, .int .u16 (m0 : Int)) :: (121, .int .i64 (m0 : Int)) :: (L83 x))))))) (hB : Fr 427 a ((16, .pointer (some ⟨hh, 0, none⟩)) :: K83 g lb v1 v2 v3 v4 v5 v6 v7 v8 v9 v10)) (h : After83 g lb x v1 v2 v3 v4 v5 v6 v7 v8 v9 v10 m0 m1 m2 m3 m4 m5 m6 m7 w0 Q) :
    wpAnyH Try.prog .any ops83 Q (Lgn lb x) 12 (lst 117 46487279038814377049333102983249919) a w := by
  refine one83 (N' := 46487279039116608504236760276926463) rda83_5 (by kernel_rfl) (by decide) (fun K hK => ?_)
  have ho : op83 78 = op83 78 := rfl
  conv at ho => rhs; whnf
  rw [ho]
  clear ho
  have e150 := hA.eval 150 rfl
  go_simp
  clear e150
  go_at_call 106
  refine (count_c c5 _).mono ?_
  rintro e x1 ⟨rfl, hG⟩
  refine hK.out _ _ (hL.fresh hG) (fun hL1 => ?_)
  clear hK K
  refine wpAnyH_gen2 hA hB (d := 151) (v := .int .i64 (m5 : Int)) (by decide) rfl (fun a1 hA1 hB1 => ?_)
  refine tk83 hQ (i := 79) (d := 152) (N' := 46487279039721071414044074864279551) (v := .int .u16 (m5 : Int)) oka83_5 (by kernel_rfl) (by decide) rfl hA1 hB1 rfl ?_ hL1 ?_
  · intro W hSw; have e151 := hA1.eval 151 rfl; have b5 := c5.2.2; have hw : IntKind.u16.wrap (m5 : Int) = m5 := wr16 b5; clear hSw hA hB hA1 hB1 h hQ; have ho : op83 79 = op83 79 := rfl; conv at ho => rhs; whnf
    rw [ho]; go_simp; first | done | with_reducible rfl | rfl
  clear hA hB hA1 hB1
  intro a2 hA hB
  exact al83_6 g lb x v1 v2 v3 v4 v5 v6 v7 v8 v9 v10 m0 m1 m2 m3 m4 m5 m6 m7 c6 c7 hQ w0 hh h0 a2 x1 hne hL1 (hF.fresh hG) (hG.there (by decide) hT (fun h => h)) (Nat.lt_of_lt_of_le hlt hG.size) hA hB h

set_option maxRecDepth 100000 in
set_option maxHeartbeats 0 in
theorem al83_4 (g lb : Nat) (x : Lg) (v1 v2 v3 v4 v5 v6 v7 v8 v9 v10 : Value) (m0 m1 m2 m3 m4 m5 m6 m7 : Nat) (c4 : Cnt x.s4 m4) (c5 : Cnt x.s5 m5) (c6 : Cnt x.s6 m6) (c7 : Cnt x.s7 m7) {Q : Exit → Act → World → Prop} (hQ : PanicsUp Q) (w0 : World) (hh : Nat) (h0 : w0.heap.size ≤ hh) (a : Act) (w : World) (hne : lb ≠ hh) (hL : Lgn lb x w) (hF : Fresh w0 w) (hT : w.there hh 0 43) (hlt : hh < w.heap.size) (hA : Fr 427 a ((140, .int .u16 (m3 : Int)) :: (139, .int .i64 (m3 : Int)) :: ((134, .int .u16 (m2 : Int)) :: (133, .int .i64 (m2 : Int)) :: ((128, .int .u16 (m1 : Int)) :: (127, .int .i64 (m1 : Int)) :: ((122, .int .u16 (m0 : Int)) :: (121, .int .i64 (m0 : Int)) :: (L83 x)))))) (hB : Fr 427 a ((16, .pointer (some ⟨hh, 0, none⟩)) :: K83 g lb v1 v2 v3 v4 v5 v6 v7 v8 v9 v10)) (h : After83 g lb x v1 v2 v3 v4 v5 v6 v7 v8 v9 v10 m0 m1 m2 m3 m4 m5 m6 m7 w0 Q) :
    wpAnyH Try.prog .any ops83 Q (Lgn lb x) 14 (lst 117 46487279038800209949884494047608831) a w := by
  refine one83 (N' := 46487279038804932316367363692822527) rda83_4 (by kernel_rfl) (by decide) (fun K hK => ?_)
  have ho : op83 72 = op83 72 := rfl
  conv at ho => rhs; whnf
  rw [ho]
  clear ho
  have e144 := hA.eval 144 rfl
  go_simp
  clear e144
  go_at_call 106
  refine (count_c c4 _).mono ?_
  rintro e x1 ⟨rfl, hG⟩
  refine hK.out _ _ (hL.fresh hG) (fun hL1 => ?_)
  clear hK K
  refine wpAnyH_gen2 hA hB (d := 145) (v := .int .i64 (m4 : Int)) (by decide) rfl (fun a1 hA1 hB1 => ?_)
  refine tk83 hQ (i := 73) (d := 146) (N' := 46487279038814377049333102983249919) (v := .int .u16 (m4 : Int)) oka83_4 (by kernel_rfl) (by decide) rfl hA1 hB1 rfl ?_ hL1 ?_
  · intro W hSw; have e145 := hA1.eval 145 rfl; have b4 := c4.2.2; have hw : IntKind.u16.wrap (m4 : Int) = m4 := wr16 b4; clear hSw hA hB hA1 hB1 h hQ; have ho : op83 73 = op83 73 := rfl; conv at ho => rhs; whnf
    rw [ho]; go_simp; first | done | with_reducible rfl | rfl
  clear hA hB hA1 hB1
  intro a2 hA hB
  exact al83_5 g lb x v1 v2 v3 v4 v5 v6 v7 v8 v9 v10 m0 m1 m2 m3 m4 m5 m6 m7 c5 c6 c7 hQ w0 hh h0 a2 x1 hne hL1 (hF.fresh hG) (hG.there (by decide) hT (fun h => h)) (Nat.lt_of_lt_of_le hlt hG.size) hA hB h

set_option maxRecDepth 100000 in
set_option maxHeartbeats 0 in
theorem al83_3 (g lb : Nat) (x : Lg) (v1 v2 v3 v4 v5 v6 v7 v8 v9 v10 : Value) (m0 m1 m2 m3 m4 m5 m6 m7 : Nat) (c3 : Cnt x.s3 m3) (c4 : Cnt x.s4 m4) (c5 : Cnt x.s5 m5) (c6 : Cnt x.s6 m6) (c7 : Cnt x.s7 m7) {Q : Exit → Act → World → Prop} (hQ : PanicsUp Q) (w0 : World) (hh : Nat) (h0 : w0.heap.size ≤ hh) (a : Act) (w : World) (hne : lb ≠ hh) (hL : Lgn lb x w) (hF : Fresh w0 w) (hT : w.there hh 0 43) (hlt : hh < w.heap.size) (hA : Fr 427 a ((134, .int .u16 (m2 : Int)) :: (133, .int .i64 (m2 : Int)) :: ((128, .int .u16 (m1 : Int)) :: (127, .int .i64 (m1 : Int)) :: ((122, .int .u16 (m0 : Int)) :: (121, .int .i64 (m0 : Int)) :: (L83 x))))) (hB : Fr 427 a ((16, .pointer (some ⟨hh, 0, none⟩)) :: K83 g lb v1 v2 v3 v4 v5 v6 v7 v8 v9 v10)) (h : After83 g lb x v1 v2 v3 v4 v5 v6 v7 v8 v9 v10 m0 m1 m2 m3 m4 m5 m6 m7 w0 Q) :
    wpAnyH Try.prog .any ops83 Q (Lgn lb x) 16 (lst 117 46487279038799988588955609532989439) a w := by
  refine one83 (N' := 46487279038800062375931904371195903) rda83_3 (by kernel_rfl) (by decide) (fun K hK => ?_)
  have ho : op83 66 = op83 66 := rfl
  conv at ho => rhs; whnf
  rw [ho]
  clear ho
  have e138 := hA.eval 138 rfl
  go_simp
  clear e138
  go_at_call 106
  refine (count_c c3 _).mono ?_
  rintro e x1 ⟨rfl, hG⟩
  refine hK.out _ _ (hL.fresh hG) (fun hL1 => ?_)
  clear hK K
  refine wpAnyH_gen2 hA hB (d := 139) (v := .int .i64 (m3 : Int)) (by decide) rfl (fun a1 hA1 hB1 => ?_)
  refine tk83 hQ (i := 67) (d := 140) (N' := 46487279038800209949884494047608831) (v := .int .u16 (m3 : Int)) oka83_3 (by kernel_rfl) (by decide) rfl hA1 hB1 rfl ?_ hL1 ?_
  · intro W hSw; have e139 := hA1.eval 139 rfl; have b3 := c3.2.2; have hw : IntKind.u16.wrap (m3 : Int) = m3 := wr16 b3; clear hSw hA hB hA1 hB1 h hQ; have ho : op83 67 = op83 67 := rfl; conv at ho => rhs; whnf
    rw [ho]; go_simp; first | done | with_reducible rfl | rfl
  clear hA hB hA1 hB1
  intro a2 hA hB
  exact al83_4 g lb x v1 v2 v3 v4 v5 v6 v7 v8 v9 v10 m0 m1 m2 m3 m4 m5 m6 m7 c4 c5 c6 c7 hQ w0 hh h0 a2 x1 hne hL1 (hF.fresh hG) (hG.there (by decide) hT (fun h => h)) (Nat.lt_of_lt_of_le hlt hG.size) hA hB h

set_option maxRecDepth 100000 in
set_option maxHeartbeats 0 in
theorem al83_2 (g lb : Nat) (x : Lg) (v1 v2 v3 v4 v5 v6 v7 v8 v9 v10 : Value) (m0 m1 m2 m3 m4 m5 m6 m7 : Nat) (c2 : Cnt x.s2 m2) (c3 : Cnt x.s3 m3) (c4 : Cnt x.s4 m4) (c5 : Cnt x.s5 m5) (c6 : Cnt x.s6 m6) (c7 : Cnt x.s7 m7) {Q : Exit → Act → World → Prop} (hQ : PanicsUp Q) (w0 : World) (hh : Nat) (h0 : w0.heap.size ≤ hh) (a : Act) (w : World) (hne : lb ≠ hh) (hL : Lgn lb x w) (hF : Fresh w0 w) (hT : w.there hh 0 43) (hlt : hh < w.heap.size) (hA : Fr 427 a ((128, .int .u16 (m1 : Int)) :: (127, .int .i64 (m1 : Int)) :: ((122, .int .u16 (m0 : Int)) :: (121, .int .i64 (m0 : Int)) :: (L83 x)))) (hB : Fr 427 a ((16, .pointer (some ⟨hh, 0, none⟩)) :: K83 g lb v1 v2 v3 v4 v5 v6 v7 v8 v9 v10)) (h : After83 g lb x v1 v2 v3 v4 v5 v6 v7 v8 v9 v10 m0 m1 m2 m3 m4 m5 m6 m7 w0 Q) :
    wpAnyH Try.prog .any ops83 Q (Lgn lb x) 18 (lst 117 46487279038799985130191095712448511) a w := by
  refine one83 (N' := 46487279038799986283112600319295487) rda83_2 (by kernel_rfl) (by decide) (fun K hK => ?_)
  have ho : op83 60 = op83 60 := rfl
  conv at ho => rhs; whnf
  rw [ho]
  clear ho
  have e132 := hA.eval 132 rfl
  go_simp
  clear e132
  go_at_call 106
  refine (count_c c2 _).mono ?_
  rintro e x1 ⟨rfl, hG⟩
  refine hK.out _ _ (hL.fresh hG) (fun hL1 => ?_)
  clear hK K
  refine wpAnyH_gen2 hA hB (d := 133) (v := .int .i64 (m2 : Int)) (by decide) rfl (fun a1 hA1 hB1 => ?_)
  refine tk83 hQ (i := 61) (d := 134) (N' := 46487279038799988588955609532989439) (v := .int .u16 (m2 : Int)) oka83_2 (by kernel_rfl) (by decide) rfl hA1 hB1 rfl ?_ hL1 ?_
  · intro W hSw; have e133 := hA1.eval 133 rfl; have b2 := c2.2.2; have hw : IntKind.u16.wrap (m2 : Int) = m2 := wr16 b2; clear hSw hA hB hA1 hB1 h hQ; have ho : op83 61 = op83 61 := rfl; conv at ho => rhs; whnf
    rw [ho]; go_simp; first | done | with_reducible rfl | rfl
  clear hA hB hA1 hB1
  intro a2 hA hB
  exact al83_3 g lb x v1 v2 v3 v4 v5 v6 v7 v8 v9 v10 m0 m1 m2 m3 m4 m5 m6 m7 c3 c4 c5 c6 c7 hQ w0 hh h0 a2 x1 hne hL1 (hF.fresh hG) (hG.there (by decide) hT (fun h => h)) (Nat.lt_of_lt_of_le hlt hG.size) hA hB h

set_option maxRecDepth 100000 in
set_option maxHeartbeats 0 in
theorem al83_1 (g lb : Nat) (x : Lg) (v1 v2 v3 v4 v5 v6 v7 v8 v9 v10 : Value) (m0 m1 m2 m3 m4 m5 m6 m7 : Nat) (c1 : Cnt x.s1 m1) (c2 : Cnt x.s2 m2) (c3 : Cnt x.s3 m3) (c4 : Cnt x.s4 m4) (c5 : Cnt x.s5 m5) (c6 : Cnt x.s6 m6) (c7 : Cnt x.s7 m7) {Q : Exit → Act → World → Prop} (hQ : PanicsUp Q) (w0 : World) (hh : Nat) (h0 : w0.heap.size ≤ hh) (a : Act) (w : World) (hne : lb ≠ hh) (hL : Lgn lb x w) (hF : Fresh w0 w) (hT : w.there hh 0 43) (hlt : hh < w.heap.size) (hA : Fr 427 a ((122, .int .u16 (m0 : Int)) :: (121, .int .i64 (m0 : Int)) :: (L83 x))) (hB : Fr 427 a ((16, .pointer (some ⟨hh, 0, none⟩)) :: K83 g lb v1 v2 v3 v4 v5 v6 v7 v8 v9 v10)) (h : After83 g lb x v1 v2 v3 v4 v5 v6 v7 v8 v9 v10 m0 m1 m2 m3 m4 m5 m6 m7 w0 Q) :
    wpAnyH Try.prog .any ops83 Q (Lgn lb x) 20 (lst 117 46487279038799985076147900184002559) a w := by
  refine one83 (N' := 46487279038799985094162298693484543) rda83_1 (by kernel_rfl) (by decide) (fun K hK => ?_)
  have ho : op83 54 = op83 54 := rfl
  conv at ho => rhs; whnf
  rw [ho]
  clear ho
  have e126 := hA.eval 126 rfl
  go_simp
  clear e126
  go_at_call 106
  refine (count_c c1 _).mono ?_
  rintro e x1 ⟨rfl, hG⟩
  refine hK.out _ _ (hL.fresh hG) (fun hL1 => ?_)
  clear hK K
  refine wpAnyH_gen2 hA hB (d := 127) (v := .int .i64 (m1 : Int)) (by decide) rfl (fun a1 hA1 hB1 => ?_)
  refine tk83 hQ (i := 55) (d := 128) (N' := 46487279038799985130191095712448511) (v := .int .u16 (m1 : Int)) oka83_1 (by kernel_rfl) (by decide) rfl hA1 hB1 rfl ?_ hL1 ?_
  · intro W hSw; have e127 := hA1.eval 127 rfl; have b1 := c1.2.2; have hw : IntKind.u16.wrap (m1 : Int) = m1 := wr16 b1; clear hSw hA hB hA1 hB1 h hQ; have ho : op83 55 = op83 55 := rfl; conv at ho => rhs; whnf
    rw [ho]; go_simp; first | done | with_reducible rfl | rfl
  clear hA hB hA1 hB1
  intro a2 hA hB
  exact al83_2 g lb x v1 v2 v3 v4 v5 v6 v7 v8 v9 v10 m0 m1 m2 m3 m4 m5 m6 m7 c2 c3 c4 c5 c6 c7 hQ w0 hh h0 a2 x1 hne hL1 (hF.fresh hG) (hG.there (by decide) hT (fun h => h)) (Nat.lt_of_lt_of_le hlt hG.size) hA hB h

set_option maxRecDepth 100000 in
set_option maxHeartbeats 0 in
theorem al83_0 (g lb : Nat) (x : Lg) (v1 v2 v3 v4 v5 v6 v7 v8 v9 v10 : Value) (m0 m1 m2 m3 m4 m5 m6 m7 : Nat) (c0 : Cnt x.s0 m0) (c1 : Cnt x.s1 m1) (c2 : Cnt x.s2 m2) (c3 : Cnt x.s3 m3) (c4 : Cnt x.s4 m4) (c5 : Cnt x.s5 m5) (c6 : Cnt x.s6 m6) (c7 : Cnt x.s7 m7) {Q : Exit → Act → World → Prop} (hQ : PanicsUp Q) (w0 : World) (hh : Nat) (h0 : w0.heap.size ≤ hh) (a : Act) (w : World) (hne : lb ≠ hh) (hL : Lgn lb x w) (hF : Fresh w0 w) (hT : w.there hh 0 43) (hlt : hh < w.heap.size) (hA : Fr 427 a (L83 x)) (hB : Fr 427 a ((16, .pointer (some ⟨hh, 0, none⟩)) :: K83 g lb v1 v2 v3 v4 v5 v6 v7 v8 v9 v10)) (h : After83 g lb x v1 v2 v3 v4 v5 v6 v7 v8 v9 v10 m0 m1 m2 m3 m4 m5 m6 m7 w0 Q) :
    wpAnyH Try.prog .any ops83 Q (Lgn lb x) 22 (lst 117 46487279038799985075303475253870591) a w := by
  refine one83 (N' := 46487279038799985075584950230581247) rda83_0 (by kernel_rfl) (by decide) (fun K hK => ?_)
  have ho : op83 48 = op83 48 := rfl
  conv at ho => rhs; whnf
  rw [ho]
  clear ho
  have e120 := hA.eval 120 rfl
  go_simp
  clear e120
  go_at_call 106
  refine (count_c c0 _).mono ?_
  rintro e x1 ⟨rfl, hG⟩
  refine hK.out _ _ (hL.fresh hG) (fun hL1 => ?_)
  clear hK K
  refine wpAnyH_gen2 hA hB (d := 121) (v := .int .i64 (m0 : Int)) (by decide) rfl (fun a1 hA1 hB1 => ?_)
  refine tk83 hQ (i := 49) (d := 122) (N' := 46487279038799985076147900184002559) (v := .int .u16 (m0 : Int)) oka83_0 (by kernel_rfl) (by decide) rfl hA1 hB1 rfl ?_ hL1 ?_
  · intro W hSw; have e121 := hA1.eval 121 rfl; have b0 := c0.2.2; have hw : IntKind.u16.wrap (m0 : Int) = m0 := wr16 b0; clear hSw hA hB hA1 hB1 h hQ; have ho : op83 49 = op83 49 := rfl; conv at ho => rhs; whnf
    rw [ho]; go_simp; first | done | with_reducible rfl | rfl
  clear hA hB hA1 hB1
  intro a2 hA hB
  exact al83_1 g lb x v1 v2 v3 v4 v5 v6 v7 v8 v9 v10 m0 m1 m2 m3 m4 m5 m6 m7 c1 c2 c3 c4 c5 c6 c7 hQ w0 hh h0 a2 x1 hne hL1 (hF.fresh hG) (hG.there (by decide) hT (fun h => h)) (Nat.lt_of_lt_of_le hlt hG.size) hA hB h

set_option maxRecDepth 100000 in
set_option maxHeartbeats 0 in
theorem no83_10 (g lb : Nat) (x : Lg) (v1 v2 v3 v4 v5 v6 v7 v8 v9 v10 : Value) (m0 m1 m2 m3 m4 m5 m6 m7 : Nat) {Q : Exit → Act → World → Prop} (hQ : PanicsUp Q) (w0 : World) (hlb : lb < w0.heap.size) (a : Act) (w : World) (hL : Lgn lb x w) (hF : Fresh w0 w) (hA : Fr 427 a ((186, .int .u16 0) :: (185, .int .i64 0) :: ((180, .int .u16 0) :: (179, .int .i64 0) :: ((164, .int .u16 (m7 : Int)) :: (163, .int .i64 (m7 : Int)) :: ((158, .int .u16 (m6 : Int)) :: (157, .int .i64 (m6 : Int)) :: ((152, .int .u16 (m5 : Int)) :: (151, .int .i64 (m5 : Int)) :: ((146, .int .u16 (m4 : Int)) :: (145, .int .i64 (m4 : Int)) :: ((140, .int .u16 (m3 : Int)) :: (139, .int .i64 (m3 : Int)) :: ((134, .int .u16 (m2 : Int)) :: (133, .int .i64 (m2 : Int)) :: ((128, .int .u16 (m1 : Int)) :: (127, .int .i64 (m1 : Int)) :: ((122, .int .u16 (m0 : Int)) :: (121, .int .i64 (m0 : Int)) :: (L83 x)))))))))))) (hB : Fr 427 a (K83 g lb v1 v2 v3 v4 v5 v6 v7 v8 v9 v10)) (h : After83 g lb x v1 v2 v3 v4 v5 v6 v7 v8 v9 v10 m0 m1 m2 m3 m4 m5 m6 m7 w0 Q) :
    wpAnyH Try.prog .any ops83 Q (Lgn lb x) 3 (lst 117 20769187434139310514121985316880383) a w := by
  refine tk83 hQ (i := 114) (d := 187) (N' := 41538374868278621028243970633760767) (v := .agg (hdr0 x m0 m1 m2 m3 m4 m5 m6 m7).toArray) okc83 (by kernel_rfl) (by decide) rfl hA hB rfl (fun W _ => exb83 x m0 m1 m2 m3 m4 m5 m6 m7 a hA W) hL (fun a1 hA1 hB1 => ?_)
  refine one83 (N' := 83076749736557242056487941267521535) rdn83_10 (by kernel_rfl) (by decide) (fun K hK => ?_)
  have ho : op83 115 = op83 115 := rfl
  conv at ho => rhs; whnf
  rw [ho]
  clear ho
  go_simp
  refine hK.out _ _ (hL.fresh ((Kept.refl _ _).alloc _)) (fun hL1 => ?_)
  clear hK K
  refine st83 g lb x v1 v2 v3 v4 v5 v6 v7 v8 v9 v10 m0 m1 m2 m3 m4 m5 m6 m7 w0 w.heap.size hF.size _ _ (by have := hF.size; omega) hL1 (hF.alloc _) ?_ ?_ ((hA1.keep _ rfl).evalT 187 rfl) (hB1.put _ (by decide)) h
  · exact (made_new hF _ (by rfl) _).1
  · exact (made_new hF _ (by rfl) _).2.2.1

set_option maxRecDepth 100000 in
set_option maxHeartbeats 0 in
theorem no83_9 (g lb : Nat) (x : Lg) (v1 v2 v3 v4 v5 v6 v7 v8 v9 v10 : Value) (m0 m1 m2 m3 m4 m5 m6 m7 : Nat) {Q : Exit → Act → World → Prop} (hQ : PanicsUp Q) (w0 : World) (hlb : lb < w0.heap.size) (a : Act) (w : World) (hL : Lgn lb x w) (hF : Fresh w0 w) (hA : Fr 427 a ((180, .int .u16 0) :: (179, .int .i64 0) :: ((164, .int .u16 (m7 : Int)) :: (163, .int .i64 (m7 : Int)) :: ((158, .int .u16 (m6 : Int)) :: (157, .int .i64 (m6 : Int)) :: ((152, .int .u16 (m5 : Int)) :: (151, .int .i64 (m5 : Int)) :: ((146, .int .u16 (m4 : Int)) :: (145, .int .i64 (m4 : Int)) :: ((140, .int .u16 (m3 : Int)) :: (139, .int .i64 (m3 : Int)) :: ((134, .int .u16 (m2 : Int)) :: (133, .int .i64 (m2 : Int)) :: ((128, .int .u16 (m1 : Int)) :: (127, .int .i64 (m1 : Int)) :: ((122, .int .u16 (m0 : Int)) :: (121, .int .i64 (m0 : Int)) :: (L83 x))))))))))) (hB : Fr 427 a (K83 g lb v1 v2 v3 v4 v5 v6 v7 v8 v9 v10)) (h : After83 g lb x v1 v2 v3 v4 v5 v6 v7 v8 v9 v10 m0 m1 m2 m3 m4 m5 m6 m7 w0 Q) :
    wpAnyH Try.prog .any ops83 Q (Lgn lb x) 5 (lst 117 5192296858534827628530496329220095) a w := by
  refine two83 (Ni := 10384593717069655257060992658440191) (Nj := 46730671726813448656774466962980863) rdn83_9 (by decide) (by decide) (by kernel_rfl) (by kernel_rfl) (fun K hK => ?_) (fun K hK => ?_)
  rotate_left 1
  · have ho : op83 115 = op83 115 := rfl
    conv at ho => rhs; whnf
    rw [ho]
    clear ho
    go_simp
    refine hK.out _ _ (hL.fresh ((Kept.refl _ _).alloc _)) (fun hL1 => ?_)
    clear hK K
    refine al83_9 g lb x v1 v2 v3 v4 v5 v6 v7 v8 v9 v10 m0 m1 m2 m3 m4 m5 m6 m7  hQ w0 w.heap.size hF.size _ _ (by have := hF.size; omega) hL1 (hF.alloc _) ?_ ?_ (hA.keep _ rfl) (hB.put _ (by decide)) h
    · exact (made_new hF _ (by rfl) _).1
    · exact (made_new hF _ (by rfl) _).2.2.1
  have ho : op83 112 = op83 112 := rfl
  conv at ho => rhs; whnf
  rw [ho]
  clear ho
  have e184 := hA.eval 184 rfl
  go_simp
  clear e184
  go_at_call 106
  refine (count_em _).mono ?_
  rintro e x1 ⟨rfl, hG⟩
  refine hK.out _ _ (hL.fresh hG) (fun hL1 => ?_)
  clear hK K
  refine wpAnyH_gen2 hA hB (d := 185) (v := .int .i64 0) (by decide) rfl (fun a1 hA1 hB1 => ?_)
  refine tk83 hQ (i := 113) (d := 186) (N' := 20769187434139310514121985316880383) (v := .int .u16 0) okn83_9 (by kernel_rfl) (by decide) rfl hA1 hB1 rfl ?_ hL1 ?_
  · intro W hSw; have e185 := hA1.eval 185 rfl; clear hSw hA hB hA1 hB1 h hQ; have ho : op83 113 = op83 113 := rfl; conv at ho => rhs; whnf
    rw [ho]; go_simp; first | done | with_reducible rfl | rfl
  clear hA hB hA1 hB1
  intro a2 hA hB
  exact no83_10 g lb x v1 v2 v3 v4 v5 v6 v7 v8 v9 v10 m0 m1 m2 m3 m4 m5 m6 m7  hQ w0 hlb a2 x1 hL1 (hF.fresh hG) hA hB h

set_option maxRecDepth 100000 in
set_option maxHeartbeats 0 in
theorem no83_8 (g lb : Nat) (x : Lg) (v1 v2 v3 v4 v5 v6 v7 v8 v9 v10 : Value) (m0 m1 m2 m3 m4 m5 m6 m7 : Nat) {Q : Exit → Act → World → Prop} (hQ : PanicsUp Q) (w0 : World) (hlb : lb < w0.heap.size) (a : Act) (w : World) (hL : Lgn lb x w) (hF : Fresh w0 w) (hA : Fr 427 a ((164, .int .u16 (m7 : Int)) :: (163, .int .i64 (m7 : Int)) :: ((158, .int .u16 (m6 : Int)) :: (157, .int .i64 (m6 : Int)) :: ((152, .int .u16 (m5 : Int)) :: (151, .int .i64 (m5 : Int)) :: ((146, .int .u16 (m4 : Int)) :: (145, .int .i64 (m4 : Int)) :: ((140, .int .u16 (m3 : Int)) :: (139, .int .i64 (m3 : Int)) :: ((134, .int .u16 (m2 : Int)) :: (133, .int .i64 (m2 : Int)) :: ((128, .int .u16 (m1 : Int)) :: (127, .int .i64 (m1 : Int)) :: ((122, .int .u16 (m0 : Int)) :: (121, .int .i64 (m0 : Int)) :: (L83 x)))))))))) (hB : Fr 427 a (K83 g lb v1 v2 v3 v4 v5 v6 v7 v8 v9 v10)) (h : After83 g lb x v1 v2 v3 v4 v5 v6 v7 v8 v9 v10 m0 m1 m2 m3 m4 m5 m6 m7 w0 Q) :
    wpAnyH Try.prog .any ops83 Q (Lgn lb x) 7 (lst 117 4948907943291007583443129313787903) a w := by
  refine two83 (Ni := 5030037581705614265138918318931967) (Nj := 46487282811569628611687099947548671) rdn83_8 (by decide) (by decide) (by kernel_rfl) (by kernel_rfl) (fun K hK => ?_) (fun K hK => ?_)
  rotate_left 1
  · have ho : op83 115 = op83 115 := rfl
    conv at ho => rhs; whnf
    rw [ho]
    clear ho
    go_simp
    refine hK.out _ _ (hL.fresh ((Kept.refl _ _).alloc _)) (fun hL1 => ?_)
    clear hK K
    refine al83_8 g lb x v1 v2 v3 v4 v5 v6 v7 v8 v9 v10 m0 m1 m2 m3 m4 m5 m6 m7  hQ w0 w.heap.size hF.size _ _ (by have := hF.size; omega) hL1 (hF.alloc _) ?_ ?_ (hA.keep _ rfl) (hB.put _ (by decide)) h
    · exact (made_new hF _ (by rfl) _).1
    · exact (made_new hF _ (by rfl) _).2.2.1
  have ho : op83 106 = op83 106 := rfl
  conv at ho => rhs; whnf
  rw [ho]
  clear ho
  have e178 := hA.eval 178 rfl
  go_simp
  clear e178
  go_at_call 106
  refine (count_em _).mono ?_
  rintro e x1 ⟨rfl, hG⟩
  refine hK.out _ _ (hL.fresh hG) (fun hL1 => ?_)
  clear hK K
  refine wpAnyH_gen2 hA hB (d := 179) (v := .int .i64 0) (by decide) rfl (fun a1 hA1 hB1 => ?_)
  refine tk83 hQ (i := 107) (d := 180) (N' := 5192296858534827628530496329220095) (v := .int .u16 0) okn83_8 (by kernel_rfl) (by decide) rfl hA1 hB1 rfl ?_ hL1 ?_
  · intro W hSw; have e179 := hA1.eval 179 rfl; clear hSw hA hB hA1 hB1 h hQ; have ho : op83 107 = op83 107 := rfl; conv at ho => rhs; whnf
    rw [ho]; go_simp; first | done | with_reducible rfl | rfl
  clear hA hB hA1 hB1
  intro a2 hA hB
  exact no83_9 g lb x v1 v2 v3 v4 v5 v6 v7 v8 v9 v10 m0 m1 m2 m3 m4 m5 m6 m7  hQ w0 hlb a2 x1 hL1 (hF.fresh hG) hA hB h

set_option maxRecDepth 100000 in
set_option maxHeartbeats 0 in
theorem no83_7 (g lb : Nat) (x : Lg) (v1 v2 v3 v4 v5 v6 v7 v8 v9 v10 : Value) (m0 m1 m2 m3 m4 m5 m6 m7 : Nat) (c7 : Cnt x.s7 m7) {Q : Exit → Act → World → Prop} (hQ : PanicsUp Q) (w0 : World) (hlb : lb < w0.heap.size) (a : Act) (w : World) (hL : Lgn lb x w) (hF : Fresh w0 w) (hA : Fr 427 a ((158, .int .u16 (m6 : Int)) :: (157, .int .i64 (m6 : Int)) :: ((152, .int .u16 (m5 : Int)) :: (151, .int .i64 (m5 : Int)) :: ((146, .int .u16 (m4 : Int)) :: (145, .int .i64 (m4 : Int)) :: ((140, .int .u16 (m3 : Int)) :: (139, .int .i64 (m3 : Int)) :: ((134, .int .u16 (m2 : Int)) :: (133, .int .i64 (m2 : Int)) :: ((128, .int .u16 (m1 : Int)) :: (127, .int .i64 (m1 : Int)) :: ((122, .int .u16 (m0 : Int)) :: (121, .int .i64 (m0 : Int)) :: (L83 x))))))))) (hB : Fr 427 a (K83 g lb v1 v2 v3 v4 v5 v6 v7 v8 v9 v10)) (h : After83 g lb x v1 v2 v3 v4 v5 v6 v7 v8 v9 v10 m0 m1 m2 m3 m4 m5 m6 m7 w0 Q) :
    wpAnyH Try.prog .any ops83 Q (Lgn lb x) 9 (lst 117 4948904229470889727302304616415231) a w := by
  refine two83 (Ni := 4948905467410929012682579515539455) (Nj := 46487279097749510755546275250175999) rdn83_7 (by decide) (by decide) (by kernel_rfl) (by kernel_rfl) (fun K hK => ?_) (fun K hK => ?_)
  rotate_left 1
  · have ho : op83 115 = op83 115 := rfl
    conv at ho => rhs; whnf
    rw [ho]
    clear ho
    go_simp
    refine hK.out _ _ (hL.fresh ((Kept.refl _ _).alloc _)) (fun hL1 => ?_)
    clear hK K
    refine al83_7 g lb x v1 v2 v3 v4 v5 v6 v7 v8 v9 v10 m0 m1 m2 m3 m4 m5 m6 m7 c7 hQ w0 w.heap.size hF.size _ _ (by have := hF.size; omega) hL1 (hF.alloc _) ?_ ?_ (hA.keep _ rfl) (hB.put _ (by decide)) h
    · exact (made_new hF _ (by rfl) _).1
    · exact (made_new hF _ (by rfl) _).2.2.1
  have ho : op83 90 = op83 90 := rfl
  conv at ho => rhs; whnf
  rw [ho]
  clear ho
  have e162 := hA.eval 162 rfl
  go_simp
  clear e162
  go_at_call 106
  refine (count_c c7 _).mono ?_
  rintro e x1 ⟨rfl, hG⟩
  refine hK.out _ _ (hL.fresh hG) (fun hL1 => ?_)
  clear hK K
  refine wpAnyH_gen2 hA hB (d := 163) (v := .int .i64 (m7 : Int)) (by decide) rfl (fun a1 hA1 hB1 => ?_)
  refine tk83 hQ (i := 91) (d := 164) (N' := 4948907943291007583443129313787903) (v := .int .u16 (m7 : Int)) okn83_7 (by kernel_rfl) (by decide) rfl hA1 hB1 rfl ?_ hL1 ?_
  · intro W hSw; have e163 := hA1.eval 163 rfl; have b7 := c7.2.2; have hw : IntKind.u16.wrap (m7 : Int) = m7 := wr16 b7; clear hSw hA hB hA1 hB1 h hQ; have ho : op83 91 = op83 91 := rfl; conv at ho => rhs; whnf
    rw [ho]; go_simp; first | done | with_reducible rfl | rfl
  clear hA hB hA1 hB1
  intro a2 hA hB
  exact no83_8 g lb x v1 v2 v3 v4 v5 v6 v7 v8 v9 v10 m0 m1 m2 m3 m4 m5 m6 m7  hQ w0 hlb a2 x1 hL1 (hF.fresh hG) hA hB h

set_option maxRecDepth 100000 in
set_option maxHeartbeats 0 in
theorem no83_6 (g lb : Nat) (x : Lg) (v1 v2 v3 v4 v5 v6 v7 v8 v9 v10 : Value) (m0 m1 m2 m3 m4 m5 m6 m7 : Nat) (c6 : Cnt x.s6 m6) (c7 : Cnt x.s7 m7) {Q : Exit → Act → World → Prop} (hQ : PanicsUp Q) (w0 : World) (hlb : lb < w0.heap.size) (a : Act) (w : World) (hL : Lgn lb x w) (hF : Fresh w0 w) (hA : Fr 427 a ((152, .int .u16 (m5 : Int)) :: (151, .int .i64 (m5 : Int)) :: ((146, .int .u16 (m4 : Int)) :: (145, .int .i64 (m4 : Int)) :: ((140, .int .u16 (m3 : Int)) :: (139, .int .i64 (m3 : Int)) :: ((134, .int .u16 (m2 : Int)) :: (133, .int .i64 (m2 : Int)) :: ((128, .int .u16 (m1 : Int)) :: (127, .int .i64 (m1 : Int)) :: ((122, .int .u16 (m0 : Int)) :: (121, .int .i64 (m0 : Int)) :: (L83 x)))))))) (hB : Fr 427 a (K83 g lb v1 v2 v3 v4 v5 v6 v7 v8 v9 v10)) (h : After83 g lb x v1 v2 v3 v4 v5 v6 v7 v8 v9 v10 m0 m1 m2 m3 m4 m5 m6 m7 w0 Q) :
    wpAnyH Try.prog .any ops83 Q (Lgn lb x) 11 (lst 117 4948904171442450385800104230518783) a w := by
  refine two83 (Ni := 4948904190785263499634171025817599) (Nj := 46487279039721071414044074864279551) rdn83_6 (by decide) (by decide) (by kernel_rfl) (by kernel_rfl) (fun K hK => ?_) (fun K hK => ?_)
  rotate_left 1
  · have ho : op83 115 = op83 115 := rfl
    conv at ho => rhs; whnf
    rw [ho]
    clear ho
    go_simp
    refine hK.out _ _ (hL.fresh ((Kept.refl _ _).alloc _)) (fun hL1 => ?_)
    clear hK K
    refine al83_6 g lb x v1 v2 v3 v4 v5 v6 v7 v8 v9 v10 m0 m1 m2 m3 m4 m5 m6 m7 c6 c7 hQ w0 w.heap.size hF.size _ _ (by have := hF.size; omega) hL1 (hF.alloc _) ?_ ?_ (hA.keep _ rfl) (hB.put _ (by decide)) h
    · exact (made_new hF _ (by rfl) _).1
    · exact (made_new hF _ (by rfl) _).2.2.1
  have ho : op83 84 = op83 84 := rfl
  conv at ho => rhs; whnf
  rw [ho]
  clear ho
  have e156 := hA.eval 156 rfl
  go_simp
  clear e156
  go_at_call 106
  refine (count_c c6 _).mono ?_
  rintro e x1 ⟨rfl, hG⟩
  refine hK.out _ _ (hL.fresh hG) (fun hL1 => ?_)
  clear hK K
  refine wpAnyH_gen2 hA hB (d := 157) (v := .int .i64 (m6 : Int)) (by decide) rfl (fun a1 hA1 hB1 => ?_)
  refine tk83 hQ (i := 85) (d := 158) (N' := 4948904229470889727302304616415231) (v := .int .u16 (m6 : Int)) okn83_6 (by kernel_rfl) (by decide) rfl hA1 hB1 rfl ?_ hL1 ?_
  · intro W hSw; have e157 := hA1.eval 157 rfl; have b6 := c6.2.2; have hw : IntKind.u16.wrap (m6 : Int) = m6 := wr16 b6; clear hSw hA hB hA1 hB1 h hQ; have ho : op83 85 = op83 85 := rfl; conv at ho => rhs; whnf
    rw [ho]; go_simp; first | done | with_reducible rfl | rfl
  clear hA hB hA1 hB1
  intro a2 hA hB
  exact no83_7 g lb x v1 v2 v3 v4 v5 v6 v7 v8 v9 v10 m0 m1 m2 m3 m4 m5 m6 m7 c7 hQ w0 hlb a2 x1 hL1 (hF.fresh hG) hA hB h

set_option maxRecDepth 100000 in
set_option maxHeartbeats 0 in
theorem no83_5 (g lb : Nat) (x : Lg) (v1 v2 v3 v4 v5 v6 v7 v8 v9 v10 : Value) (m0 m1 m2 m3 m4 m5 m6 m7 : Nat) (c5 : Cnt x.s5 m5) (c6 : Cnt x.s6 m6) (c7 : Cnt x.s7 m7) {Q : Exit → Act → World → Prop} (hQ : PanicsUp Q) (w0 : World) (hlb : lb < w0.heap.size) (a : Act) (w : World) (hL : Lgn lb x w) (hF : Fresh w0 w) (hA : Fr 427 a ((146, .int .u16 (m4 : Int)) :: (145, .int .i64 (m4 : Int)) :: ((140, .int .u16 (m3 : Int)) :: (139, .int .i64 (m3 : Int)) :: ((134, .int .u16 (m2 : Int)) :: (133, .int .i64 (m2 : Int)) :: ((128, .int .u16 (m1 : Int)) :: (127, .int .i64 (m1 : Int)) :: ((122, .int .u16 (m0 : Int)) :: (121, .int .i64 (m0 : Int)) :: (L83 x))))))) (hB : Fr 427 a (K83 g lb v1 v2 v3 v4 v5 v6 v7 v8 v9 v10)) (h : After83 g lb x v1 v2 v3 v4 v5 v6 v7 v8 v9 v10 m0 m1 m2 m3 m4 m5 m6 m7 w0 Q) :
    wpAnyH Try.prog .any ops83 Q (Lgn lb x) 13 (lst 117 4948904170535756021089132349489151) a w := by
  refine two83 (Ni := 4948904170837987475992789643165695) (Nj := 46487279038814377049333102983249919) rdn83_5 (by decide) (by decide) (by kernel_rfl) (by kernel_rfl) (fun K hK => ?_) (fun K hK => ?_)
  rotate_left 1
  · have ho : op83 115 = op83 115 := rfl
    conv at ho => rhs; whnf
    rw [ho]
    clear ho
    go_simp
    refine hK.out _ _ (hL.fresh ((Kept.refl _ _).alloc _)) (fun hL1 => ?_)
    clear hK K
    refine al83_5 g lb x v1 v2 v3 v4 v5 v6 v7 v8 v9 v10 m0 m1 m2 m3 m4 m5 m6 m7 c5 c6 c7 hQ w0 w.heap.size hF.size _ _ (by have := hF.size; omega) hL1 (hF.alloc _) ?_ ?_ (hA.keep _ rfl) (hB.put _ (by decide)) h
    · exact (made_new hF _ (by rfl) _).1
    · exact (made_new hF _ (by rfl) _).2.2.1
  have ho : op83 78 = op83 78 := rfl
  conv at ho => rhs; whnf
  rw [ho]
  clear ho
  have e150 := hA.eval 150 rfl
  go_simp
  clear e150
  go_at_call 106
  refine (count_c c5 _).mono ?_
  rintro e x1 ⟨rfl, hG⟩
  refine hK.out _ _ (hL.fresh hG) (fun hL1 => ?_)
  clear hK K
  refine wpAnyH_gen2 hA hB (d := 151) (v := .int .i64 (m5 : Int)) (by decide) rfl (fun a1 hA1 hB1 => ?_)
  refine tk83 hQ (i := 79) (d := 152) (N' := 4948904171442450385800104230518783) (v := .int .u16 (m5 : Int)) okn83_5 (by kernel_rfl) (by decide) rfl hA1 hB1 rfl ?_ hL1 ?_
  · intro W hSw; have e151 := hA1.eval 151 rfl; have b5 := c5.2.2; have hw : IntKind.u16.wrap (m5 : Int) = m5 := wr16 b5; clear hSw hA hB hA1 hB1 h hQ; have ho : op83 79 = op83 79 := rfl; conv at ho => rhs; whnf
    rw [ho]; go_simp; first | done | with_reducible rfl | rfl
  clear hA hB hA1 hB1
  intro a2 hA hB
  exact no83_6 g lb x v1 v2 v3 v4 v5 v6 v7 v8 v9 v10 m0 m1 m2 m3 m4 m5 m6 m7 c6 c7 hQ w0 hlb a2 x1 hL1 (hF.fresh hG) hA hB h

set_option maxRecDepth 100000 in
set_option maxHeartbeats 0 in
theorem no83_4 (g lb : Nat) (x : Lg) (v1 v2 v3 v4 v5 v6 v7 v8 v9 v10 : Value) (m0 m1 m2 m3 m4 m5 m6 m7 : Nat) (c4 : Cnt x.s4 m4) (c5 : Cnt x.s5 m5) (c6 : Cnt x.s6 m6) (c7 : Cnt x.s7 m7) {Q : Exit → Act → World → Prop} (hQ : PanicsUp Q) (w0 : World) (hlb : lb < w0.heap.size) (a : Act) (w : World) (hL : Lgn lb x w) (hF : Fresh w0 w) (hA : Fr 427 a ((140, .int .u16 (m3 : Int)) :: (139, .int .i64 (m3 : Int)) :: ((134, .int .u16 (m2 : Int)) :: (133, .int .i64 (m2 : Int)) :: ((128, .int .u16 (m1 : Int)) :: (127, .int .i64 (m1 : Int)) :: ((122, .int .u16 (m0 : Int)) :: (121, .int .i64 (m0 : Int)) :: (L83 x)))))) (hB : Fr 427 a (K83 g lb v1 v2 v3 v4 v5 v6 v7 v8 v9 v10)) (h : After83 g lb x v1 v2 v3 v4 v5 v6 v7 v8 v9 v10 m0 m1 m2 m3 m4 m5 m6 m7 w0 Q) :
    wpAnyH Try.prog .any ops83 Q (Lgn lb x) 15 (lst 117 4948904170521588921640523413848063) a w := by
  refine two83 (Ni := 4948904170526311288123393059061759) (Nj := 46487279038800209949884494047608831) rdn83_4 (by decide) (by decide) (by kernel_rfl) (by kernel_rfl) (fun K hK => ?_) (fun K hK => ?_)
  rotate_left 1
  · have ho : op83 115 = op83 115 := rfl
    conv at ho => rhs; whnf
    rw [ho]
    clear ho
    go_simp
    refine hK.out _ _ (hL.fresh ((Kept.refl _ _).alloc _)) (fun hL1 => ?_)
    clear hK K
    refine al83_4 g lb x v1 v2 v3 v4 v5 v6 v7 v8 v9 v10 m0 m1 m2 m3 m4 m5 m6 m7 c4 c5 c6 c7 hQ w0 w.heap.size hF.size _ _ (by have := hF.size; omega) hL1 (hF.alloc _) ?_ ?_ (hA.keep _ rfl) (hB.put _ (by decide)) h
    · exact (made_new hF _ (by rfl) _).1
    · exact (made_new hF _ (by rfl) _).2.2.1
  have ho : op83 72 = op83 72 := rfl
  conv at ho => rhs; whnf
  rw [ho]
  clear ho
  have e144 := hA.eval 144 rfl
  go_simp
  clear e144
  go_at_call 106
  refine (count_c c4 _).mono ?_
  rintro e x1 ⟨rfl, hG⟩
  refine hK.out _ _ (hL.fresh hG) (fun hL1 => ?_)
  clear hK K
  refine wpAnyH_gen2 hA hB (d := 145) (v := .int .i64 (m4 : Int)) (by decide) rfl (fun a1 hA1 hB1 => ?_)
  refine tk83 hQ (i := 73) (d := 146) (N' := 4948904170535756021089132349489151) (v := .int .u16 (m4 : Int)) okn83_4 (by kernel_rfl) (by decide) rfl hA1 hB1 rfl ?_ hL1 ?_
  · intro W hSw; have e145 := hA1.eval 145 rfl; have b4 := c4.2.2; have hw : IntKind.u16.wrap (m4 : Int) = m4 := wr16 b4; clear hSw hA hB hA1 hB1 h hQ; have ho : op83 73 = op83 73 := rfl; conv at ho => rhs; whnf
    rw [ho]; go_simp; first | done | with_reducible rfl | rfl
  clear hA hB hA1 hB1
  intro a2 hA hB
  exact no83_5 g lb x v1 v2 v3 v4 v5 v6 v7 v8 v9 v10 m0 m1 m2 m3 m4 m5 m6 m7 c5 c6 c7 hQ w0 hlb a2 x1 hL1 (hF.fresh hG) hA hB h

set_option maxRecDepth 100000 in
set_option maxHeartbeats 0 in
theorem no83_3 (g lb : Nat) (x : Lg) (v1 v2 v3 v4 v5 v6 v7 v8 v9 v10 : Value) (m0 m1 m2 m3 m4 m5 m6 m7 : Nat) (c3 : Cnt x.s3 m3) (c4 : Cnt x.s4 m4) (c5 : Cnt x.s5 m5) (c6 : Cnt x.s6 m6) (c7 : Cnt x.s7 m7) {Q : Exit → Act → World → Prop} (hQ : PanicsUp Q) (w0 : World) (hlb : lb < w0.heap.size) (a : Act) (w : World) (hL : Lgn lb x w) (hF : Fresh w0 w) (hA : Fr 427 a ((134, .int .u16 (m2 : Int)) :: (133, .int .i64 (m2 : Int)) :: ((128, .int .u16 (m1 : Int)) :: (127, .int .i64 (m1 : Int)) :: ((122, .int .u16 (m0 : Int)) :: (121, .int .i64 (m0 : Int)) :: (L83 x))))) (hB : Fr 427 a (K83 g lb v1 v2 v3 v4 v5 v6 v7 v8 v9 v10)) (h : After83 g lb x v1 v2 v3 v4 v5 v6 v7 v8 v9 v10 m0 m1 m2 m3 m4 m5 m6 m7 w0 Q) :
    wpAnyH Try.prog .any ops83 Q (Lgn lb x) 17 (lst 117 4948904170521367560711638899228671) a w := by
  refine two83 (Ni := 4948904170521441347687933737435135) (Nj := 46487279038799988588955609532989439) rdn83_3 (by decide) (by decide) (by kernel_rfl) (by kernel_rfl) (fun K hK => ?_) (fun K hK => ?_)
  rotate_left 1
  · have ho : op83 115 = op83 115 := rfl
    conv at ho => rhs; whnf
    rw [ho]
    clear ho
    go_simp
    refine hK.out _ _ (hL.fresh ((Kept.refl _ _).alloc _)) (fun hL1 => ?_)
    clear hK K
    refine al83_3 g lb x v1 v2 v3 v4 v5 v6 v7 v8 v9 v10 m0 m1 m2 m3 m4 m5 m6 m7 c3 c4 c5 c6 c7 hQ w0 w.heap.size hF.size _ _ (by have := hF.size; omega) hL1 (hF.alloc _) ?_ ?_ (hA.keep _ rfl) (hB.put _ (by decide)) h
    · exact (made_new hF _ (by rfl) _).1
    · exact (made_new hF _ (by rfl) _).2.2.1
  have ho : op83 66 = op83 66 := rfl
  conv at ho => rhs; whnf
  rw [ho]
  clear ho
  have e138 := hA.eval 138 rfl
  go_simp
  clear e138
  go_at_call 106
  refine (count_c c3 _).mono ?_
  rintro e x1 ⟨rfl, hG⟩
  refine hK.out _ _ (hL.fresh hG) (fun hL1 => ?_)
  clear hK K
  refine wpAnyH_gen2 hA hB (d := 139) (v := .int .i64 (m3 : Int)) (by decide) rfl (fun a1 hA1 hB1 => ?_)
  refine tk83 hQ (i := 67) (d := 140) (N' := 4948904170521588921640523413848063) (v := .int .u16 (m3 : Int)) okn83_3 (by kernel_rfl) (by decide) rfl hA1 hB1 rfl ?_ hL1 ?_
  · intro W hSw; have e139 := hA1.eval 139 rfl; have b3 := c3.2.2; have hw : IntKind.u16.wrap (m3 : Int) = m3 := wr16 b3; clear hSw hA hB hA1 hB1 h hQ; have ho : op83 67 = op83 67 := rfl; conv at ho => rhs; whnf
    rw [ho]; go_simp; first | done | with_reducible rfl | rfl
  clear hA hB hA1 hB1
  intro a2 hA hB
  exact no83_4 g lb x v1 v2 v3 v4 v5 v6 v7 v8 v9 v10 m0 m1 m2 m3 m4 m5 m6 m7 c4 c5 c6 c7 hQ w0 hlb a2 x1 hL1 (hF.fresh hG) hA hB h

set_option maxRecDepth 100000 in
set_option maxHeartbeats 0 in
theorem no83_2 (g lb : Nat) (x : Lg) (v1 v2 v3 v4 v5 v6 v7 v8 v9 v10 : Value) (m0 m1 m2 m3 m4 m5 m6 m7 : Nat) (c2 : Cnt x.s2 m2) (c3 : Cnt x.s3 m3) (c4 : Cnt x.s4 m4) (c5 : Cnt x.s5 m5) (c6 : Cnt x.s6 m6) (c7 : Cnt x.s7 m7) {Q : Exit → Act → World → Prop} (hQ : PanicsUp Q) (w0 : World) (hlb : lb < w0.heap.size) (a : Act) (w : World) (hL : Lgn lb x w) (hF : Fresh w0 w) (hA : Fr 427 a ((128, .int .u16 (m1 : Int)) :: (127, .int .i64 (m1 : Int)) :: ((122, .int .u16 (m0 : Int)) :: (121, .int .i64 (m0 : Int)) :: (L83 x)))) (hB : Fr 427 a (K83 g lb v1 v2 v3 v4 v5 v6 v7 v8 v9 v10)) (h : After83 g lb x v1 v2 v3 v4 v5 v6 v7 v8 v9 v10 m0 m1 m2 m3 m4 m5 m6 m7 w0 Q) :
    wpAnyH Try.prog .any ops83 Q (Lgn lb x) 19 (lst 117 4948904170521364101947125078687743) a w := by
  refine two83 (Ni := 4948904170521365254868629685534719) (Nj := 46487279038799985130191095712448511) rdn83_2 (by decide) (by decide) (by kernel_rfl) (by kernel_rfl) (fun K hK => ?_) (fun K hK => ?_)
  rotate_left 1
  · have ho : op83 115 = op83 115 := rfl
    conv at ho => rhs; whnf
    rw [ho]
    clear ho
    go_simp
    refine hK.out _ _ (hL.fresh ((Kept.refl _ _).alloc _)) (fun hL1 => ?_)
    clear hK K
    refine al83_2 g lb x v1 v2 v3 v4 v5 v6 v7 v8 v9 v10 m0 m1 m2 m3 m4 m5 m6 m7 c2 c3 c4 c5 c6 c7 hQ w0 w.heap.size hF.size _ _ (by have := hF.size; omega) hL1 (hF.alloc _) ?_ ?_ (hA.keep _ rfl) (hB.put _ (by decide)) h
    · exact (made_new hF _ (by rfl) _).1
    · exact (made_new hF _ (by rfl) _).2.2.1
  have ho : op83 60 = op83 60 := rfl
  conv at ho => rhs; whnf
  rw [ho]
  clear ho
  have e132 := hA.eval 132 rfl
  go_simp
  clear e132
  go_at_call 106
  refine (count_c c2 _).mono ?_
  rintro e x1 ⟨rfl, hG⟩
  refine hK.out _ _ (hL.fresh hG) (fun hL1 => ?_)
  clear hK K
  refine wpAnyH_gen2 hA hB (d := 133) (v := .int .i64 (m2 : Int)) (by decide) rfl (fun a1 hA1 hB1 => ?_)
  refine tk83 hQ (i := 61) (d := 134) (N' := 4948904170521367560711638899228671) (v := .int .u16 (m2 : Int)) okn83_2 (by kernel_rfl) (by decide) rfl hA1 hB1 rfl ?_ hL1 ?_
  · intro W hSw; have e133 := hA1.eval 133 rfl; have b2 := c2.2.2; have hw : IntKind.u16.wrap (m2 : Int) = m2 := wr16 b2; clear hSw hA hB hA1 hB1 h hQ; have ho : op83 61 = op83 61 := rfl; conv at ho => rhs; whnf
    rw [ho]; go_simp; first | done | with_reducible rfl | rfl
  clear hA hB hA1 hB1
  intro a2 hA hB
  exact no83_3 g lb x v1 v2 v3 v4 v5 v6 v7 v8 v9 v10 m0 m1 m2 m3 m4 m5 m6 m7 c3 c4 c5 c6 c7 hQ w0 hlb a2 x1 hL1 (hF.fresh hG) hA hB h

set_option maxRecDepth 100000 in
set_option maxHeartbeats 0 in
theorem no83_1 (g lb : Nat) (x : Lg) (v1 v2 v3 v4 v5 v6 v7 v8 v9 v10 : Value) (m0 m1 m2 m3 m4 m5 m6 m7 : Nat) (c1 : Cnt x.s1 m1) (c2 : Cnt x.s2 m2) (c3 : Cnt x.s3 m3) (c4 : Cnt x.s4 m4) (c5 : Cnt x.s5 m5) (c6 : Cnt x.s6 m6) (c7 : Cnt x.s7 m7) {Q : Exit → Act → World → Prop} (hQ : PanicsUp Q) (w0 : World) (hlb : lb < w0.heap.size) (a : Act) (w : World) (hL : Lgn lb x w) (hF : Fresh w0 w) (hA : Fr 427 a ((122, .int .u16 (m0 : Int)) :: (121, .int .i64 (m0 : Int)) :: (L83 x))) (hB : Fr 427 a (K83 g lb v1 v2 v3 v4 v5 v6 v7 v8 v9 v10)) (h : After83 g lb x v1 v2 v3 v4 v5 v6 v7 v8 v9 v10 m0 m1 m2 m3 m4 m5 m6 m7 w0 Q) :
    wpAnyH Try.prog .any ops83 Q (Lgn lb x) 21 (lst 117 4948904170521364047903929550241791) a w := by
  refine two83 (Ni := 4948904170521364065918328059723775) (Nj := 46487279038799985076147900184002559) rdn83_1 (by decide) (by decide) (by kernel_rfl) (by kernel_rfl) (fun K hK => ?_) (fun K hK => ?_)
  rotate_left 1
  · have ho : op83 115 = op83 115 := rfl
    conv at ho => rhs; whnf
    rw [ho]
    clear ho
    go_simp
    refine hK.out _ _ (hL.fresh ((Kept.refl _ _).alloc _)) (fun hL1 => ?_)
    clear hK K
    refine al83_1 g lb x v1 v2 v3 v4 v5 v6 v7 v8 v9 v10 m0 m1 m2 m3 m4 m5 m6 m7 c1 c2 c3 c4 c5 c6 c7 hQ w0 w.heap.size hF.size _ _ (by have := hF.size; omega) hL1 (hF.alloc _) ?_ ?_ (hA.keep _ rfl) (hB.put _ (by decide)) h
    · exact (made_new hF _ (by rfl) _).1
    · exact (made_new hF _ (by rfl) _).2.2.1
  have ho : op83 54 = op83 54 := rfl
  conv at ho => rhs; whnf
  rw [ho]
  clear ho
  have e126 := hA.eval 126 rfl
  go_simp
  clear e126
  go_at_call 106
  refine (count_c c1 _).mono ?_
  rintro e x1 ⟨rfl, hG⟩
  refine hK.out _ _ (hL.fresh hG) (fun hL1 => ?_)
  clear hK K
  refine wpAnyH_gen2 hA hB (d := 127) (v := .int .i64 (m1 : Int)) (by decide) rfl (fun a1 hA1 hB1 => ?_)
  refine tk83 hQ (i := 55) (d := 128) (N' := 4948904170521364101947125078687743) (v := .int .u16 (m1 : Int)) okn83_1 (by kernel_rfl) (by decide) rfl hA1 hB1 rfl ?_ hL1 ?_
  · intro W hSw; have e127 := hA1.eval 127 rfl; have b1 := c1.2.2; have hw : IntKind.u16.wrap (m1 : Int) = m1 := wr16 b1; clear hSw hA hB hA1 hB1 h hQ; have ho : op83 55 = op83 55 := rfl; conv at ho => rhs; whnf
    rw [ho]; go_simp; first | done | with_reducible rfl | rfl
  clear hA hB hA1 hB1
  intro a2 hA hB
  exact no83_2 g lb x v1 v2 v3 v4 v5 v6 v7 v8 v9 v10 m0 m1 m2 m3 m4 m5 m6 m7 c2 c3 c4 c5 c6 c7 hQ w0 hlb a2 x1 hL1 (hF.fresh hG) hA hB h

set_option maxRecDepth 100000 in
set_option maxHeartbeats 0 in
theorem no83_0 (g lb : Nat) (x : Lg) (v1 v2 v3 v4 v5 v6 v7 v8 v9 v10 : Value) (m0 m1 m2 m3 m4 m5 m6 m7 : Nat) (c0 : Cnt x.s0 m0) (c1 : Cnt x.s1 m1) (c2 : Cnt x.s2 m2) (c3 : Cnt x.s3 m3) (c4 : Cnt x.s4 m4) (c5 : Cnt x.s5 m5) (c6 : Cnt x.s6 m6) (c7 : Cnt x.s7 m7) {Q : Exit → Act → World → Prop} (hQ : PanicsUp Q) (w0 : World) (hlb : lb < w0.heap.size) (a : Act) (w : World) (hL : Lgn lb x w) (hF : Fresh w0 w) (hA : Fr 427 a (L83 x)) (hB : Fr 427 a (K83 g lb v1 v2 v3 v4 v5 v6 v7 v8 v9 v10)) (h : After83 g lb x v1 v2 v3 v4 v5 v6 v7 v8 v9 v10 m0 m1 m2 m3 m4 m5 m6 m7 w0 Q) :
    wpAnyH Try.prog .any ops83 Q (Lgn lb x) 23 (lst 117 4948904170521364047059504620109823) a w := by
  refine two83 (Ni := 4948904170521364047340979596820479) (Nj := 46487279038799985075303475253870591) rdn83_0 (by decide) (by decide) (by kernel_rfl) (by kernel_rfl) (fun K hK => ?_) (fun K hK => ?_)
  rotate_left 1
  · have ho : op83 115 = op83 115 := rfl
    conv at ho => rhs; whnf
    rw [ho]
    clear ho
    go_simp
    refine hK.out _ _ (hL.fresh ((Kept.refl _ _).alloc _)) (fun hL1 => ?_)
    clear hK K
    refine al83_0 g lb x v1 v2 v3 v4 v5 v6 v7 v8 v9 v10 m0 m1 m2 m3 m4 m5 m6 m7 c0 c1 c2 c3 c4 c5 c6 c7 hQ w0 w.heap.size hF.size _ _ (by have := hF.size; omega) hL1 (hF.alloc _) ?_ ?_ (hA.keep _ rfl) (hB.put _ (by decide)) h
    · exact (made_new hF _ (by rfl) _).1
    · exact (made_new hF _ (by rfl) _).2.2.1
  have ho : op83 48 = op83 48 := rfl
  conv at ho => rhs; whnf
  rw [ho]
  clear ho
  have e120 := hA.eval 120 rfl
  go_simp
  clear e120
  go_at_call 106
  refine (count_c c0 _).mono ?_
  rintro e x1 ⟨rfl, hG⟩
  refine hK.out _ _ (hL.fresh hG) (fun hL1 => ?_)
  clear hK K
  refine wpAnyH_gen2 hA hB (d := 121) (v := .int .i64 (m0 : Int)) (by decide) rfl (fun a1 hA1 hB1 => ?_)
  refine tk83 hQ (i := 49) (d := 122) (N' := 4948904170521364047903929550241791) (v := .int .u16 (m0 : Int)) okn83_0 (by kernel_rfl) (by decide) rfl hA1 hB1 rfl ?_ hL1 ?_
  · intro W hSw; have e121 := hA1.eval 121 rfl; have b0 := c0.2.2; have hw : IntKind.u16.wrap (m0 : Int) = m0 := wr16 b0; clear hSw hA hB hA1 hB1 h hQ; have ho : op83 49 = op83 49 := rfl; conv at ho => rhs; whnf
    rw [ho]; go_simp; first | done | with_reducible rfl | rfl
  clear hA hB hA1 hB1
  intro a2 hA hB
  exact no83_1 g lb x v1 v2 v3 v4 v5 v6 v7 v8 v9 v10 m0 m1 m2 m3 m4 m5 m6 m7 c1 c2 c3 c4 c5 c6 c7 hQ w0 hlb a2 x1 hL1 (hF.fresh hG) hA hB h

theorem lit83 (g lb : Nat) (x : Lg) (v1 v2 v3 v4 v5 v6 v7 v8 v9 v10 : Value) (m0 m1 m2 m3 m4 m5 m6 m7 : Nat) (c0 : Cnt x.s0 m0) (c1 : Cnt x.s1 m1) (c2 : Cnt x.s2 m2) (c3 : Cnt x.s3 m3) (c4 : Cnt x.s4 m4) (c5 : Cnt x.s5 m5) (c6 : Cnt x.s6 m6) (c7 : Cnt x.s7 m7) {Q : Exit → Act → World → Prop} (hQ : PanicsUp Q) (w0 : World) (hlb : lb < w0.heap.size) (a : Act) (w : World) (hL : Lgn lb x w) (hF : Fresh w0 w) (hB : Fr 427 a (K83 g lb v1 v2 v3 v4 v5 v6 v7 v8 v9 v10)) (h : After83 g lb x v1 v2 v3 v4 v5 v6 v7 v8 v9 v10 m0 m1 m2 m3 m4 m5 m6 m7 w0 Q) :
    wpAnyH Try.prog .any ops83 Q (Lgn lb x) 117 (lst 117 0) a w :=
  loads83 g lb x v1 v2 v3 v4 v5 v6 v7 v8 v9 v10 hQ a w hL hB 23 fun a' hA hB' => no83_0 g lb x v1 v2 v3 v4 v5 v6 v7 v8 v9 v10 m0 m1 m2 m3 m4 m5 m6 m7 c0 c1 c2 c3 c4 c5 c6 c7 hQ w0 hlb a' w hL hF hA hB' h
end Go.Proofs.Ytahcaoenddapoaa
