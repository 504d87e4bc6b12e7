/- writePrelogin. -/
import Derived.Test.YtahcaoenddapoaaMp
import Derived.Test.YtahcaoenddapoaaSrt3
import Derived.Test.YtahcaoenddapoaaPw
namespace Go.Proofs.Ytahcaoenddapoaa
open Go.RowKit

theorem nodup_le {α : Type} [DecidableEq α] : ∀ (l m : List α), l.Nodup → (∀ x ∈ l, x ∈ m) → l.length ≤ m.length := by
  intro l
  induction l with
  | nil => intro m _ _; simp
  | cons x l ih =>
    intro m hn hs
    rw [List.nodup_cons] at hn
    have hx := hs x (by simp)
    have h := ih (m.erase x) hn.2 (fun y hy => by
      have hy' := hs y (by simp [hy])
      have hne : y ≠ x := fun e => hn.1 (e ▸ hy)
      exact (List.mem_erase_of_ne hne).2 hy')
    rw [List.length_erase_of_mem hx] at h
    have : 0 < m.length := List.length_pos_of_mem hx
    simp only [List.length_cons]
    omega

theorem mem_of_lookup {β : Type} : ∀ (M : List (Nat × β)) (k : Nat), (M.lookup k).isSome = true → k ∈ M.map Prod.fst := by
  intro M k
  induction M with
  | nil => intro h; simp at h
  | cons p M ih =>
    obtain ⟨j, v⟩ := p
    intro h
    rw [List.lookup_cons] at h
    by_cases e : k = j
    · simp [e]
    · have : (k == j) = false := by simp [e]
      rw [this] at h
      simp [ih h]

theorem got_le {β : Type} {M : List (Nat × β)} {got : List Nat} (hn : got.Nodup) (h : ∀ k ∈ got, k < 256 ∧ (M.lookup k).isSome = true) : got.length ≤ M.length := by
  have := nodup_le got (M.map Prod.fst) hn (fun x hx => mem_of_lookup M x (h x hx).2)
  simpa using this

/-- The table ahead of the data: each token with its offset and its length. -/
def tabs (D : Nat → List Nat) : Nat → List Nat → List Nat
  | _, [] => []
  | o, k :: ks => [k, o / 256 % 256, o % 256, (D k).length / 256 % 256, (D k).length % 256] ++ tabs D (o + (D k).length) ks

theorem tabs_snoc (D : Nat → List Nat) (ks : List Nat) : ∀ (o k : Nat), tabs D o (ks ++ [k]) = tabs D o ks ++ [k, (o + (ks.flatMap D).length) / 256 % 256, (o + (ks.flatMap D).length) % 256, (D k).length / 256 % 256, (D k).length % 256] := by
  induction ks with
  | nil => intro o k; simp [tabs]
  | cons x ks ih =>
    intro o k
    simp only [List.cons_append, tabs, ih, List.append_assoc, List.flatMap_cons, List.length_append, Nat.add_assoc]

theorem tabs_length (D : Nat → List Nat) (ks : List Nat) : ∀ o, (tabs D o ks).length = 5 * ks.length := by
  induction ks with
  | nil => intro o; rfl
  | cons x ks ih => intro o; simp only [tabs, List.length_append, List.length_cons, List.length_nil, ih]; omega

/-- Here the walk stops. -/
def Stop (p : Prop) : Prop := p
theorem stop_range {P : Program} {ops : Array Oper} {rest : List Oper} {op : Oper} {a : Act} {w : World} {Q : Exit → Act → World → Prop} {T : TypeId} {x : Operand} (_ : op.op = .range T x) (h : Stop (wpList P ops Q (op :: rest) a w)) : wpList P ops Q (op :: rest) a w := h

theorem stop_next {P : Program} {ops : Array Oper} {rest : List Oper} {op : Oper} {a : Act} {w : World} {Q : Exit → Act → World → Prop} {x : Operand} {s : Bool} (_ : op.op = .next x s) (h : Stop (wpList P ops Q (op :: rest) a w)) : wpList P ops Q (op :: rest) a w := h

theorem stop_call {P : Program} {ops : Array Oper} {rest : List Oper} {op : Oper} {a : Act} {w : World} {Q : Exit → Act → World → Prop} {c : Call} (_ : op.op = .call c) (h : Stop (wpList P ops Q (op :: rest) a w)) : wpList P ops Q (op :: rest) a w := h

/-- The map's keys in growing order: the table, a mark and the data have been sent in packets. -/
def Plw (w w' : World) (base g hb bb C : Nat) (M : List (Nat × Value)) (D : Nat → List Nat) : Prop :=
  ∃ ks : List Nat, ks.Pairwise (· < ·) ∧ (∀ k ∈ ks, k < 256) ∧ (∀ k, k < 256 → ((M.lookup k).isSome = true ↔ k ∈ ks)) ∧
    ∃ v' L seq l, Raw w' base g hb bb 32767 32768 C 8 seq 18 v' l L ∧ AllPacked 32759 18 (tabs D (5 * M.length + 1) ks ++ [255] ++ ks.flatMap D) l ∧ Kept w w' (fun j => base ≤ j)

set_option maxRecDepth 100000 in
set_option maxHeartbeats 4000000 in
theorem writePrelogin_any (base g hb bb C mb : Nat) (v : Value) (M : List (Nat × Value)) (w : World) (hN : New w base g hb bb 32767 C v []) (hM : MapIs Try.prog 5 w mb M) (hl : M.length ≤ 10) (hmb : mb < base) (hbase : base ≤ w.heap.size)
    (D : Nat → List Nat) (hD : ∀ k z, M.lookup k = some z → Bts w z (D k) ∧ (∀ j, z.ownBlock = some j → j < base) ∧ (D k).length ≤ 3000) :
    Calls Try.prog 96 #[.int .u8 18, .pointer (some ⟨g, 0, none⟩), .map (some mb)] w fun e w' => e = .returned .nilIface ∧ Plw w w' base g hb bb C M D := by
  obtain ⟨i0, hi, hz0, hz1, hz2⟩ := info_parts info5
  have hc1 := hN.c1
  have hc2 := hN.c2
  have HN := Go.Lib.hid hN
  have HM := Go.Lib.hid hM
  clear hN hM
  go_enter Try.func96, Try.ntmps96
  go_wp2_with (fail)
  refine (begin_any base g hb bb 32767 32768 C 0 0 0 18 v [] _ _ HN.out.raw (by omega) (by omega)).mono ?_
  rintro e w0 ⟨rfl, R0, K0⟩
  have hM0 := HM.out.kept K0 (fun hs => by have := RawS.ge HN.out.raw mb hs; omega)
  have hlen := hM0.len Try.underlying105
  have hO := Go.Lib.hid (new_out HN.out R0)
  have HM0 := Go.Lib.hid hM0
  have HK0 := Go.Lib.hid K0
  clear R0 K0 hM0
  go_wp2_with (first | (with_reducible refine stop_range (T := 105) (x := .tmp 31) rfl ?_) | (at_make; refine wpList_make_own _ rfl _ _ 174 rfl w0.heap.size 5 i0 (.int .u8 0) 1 Try.underlying174 hi hz0 hz1 .i64 .i64 _ M.length rfl rfl rfl (by rw [hz2]; omega) (by unfold maxLen; omega) (Nat.le_refl _) ?_; intro w1 hown hgr))
  have hF1 : Fresh w0 w1 := (Kept.of_grown hgr).mono (fun _ _ h => by cases h)
  have HM1 := Go.Lib.hid (HM0.out.fresh hF1)
  have hr1 : Row w0.heap.size w1 (.slice (some ⟨w0.heap.size, 0, none⟩) 0 M.length) [] := RowK.of_own hown rfl rfl
  have HR1 := Go.Lib.hid hr1
  have HF1 := Go.Lib.hid hF1
  clear hown hgr hF1 hr1 hlen
  obtain ⟨m, hm⟩ : ∃ m, M.length = m := ⟨_, rfl⟩
  rw [hm] at HR1 hl ⊢
  have HMM := Go.Lib.hid hm
  clear hm
  unfold Stop
  refine wpList_range_map (kt := 5) rfl (.tmp 31) 105 24 rfl Try.underlying5 Try.underlying105 mb M (by kernel_rfl) HM1.out ?_
  intro w2 hRng hF2 hs2
  have hF02 : Fresh w0 w2 := HF1.out.fresh hF2
  have HR2 := Go.Lib.hid (HR1.out.fresh hF2)
  have HRN := Go.Lib.hid hRng
  have HF02 := Go.Lib.hid hF02
  have hrb : w0.heap.size ≤ w1.heap.size ∧ (Value.slice (some ⟨w0.heap.size, 0, none⟩) 0 m).ownBlock ≠ some w1.heap.size := ⟨HF1.out.size, fun e => by have := HR1.out.block _ e; omega⟩
  clear hRng hF2 hs2 hF02
  generalize w1.heap.size = rb at *
  simp only [Act.put, List.setIfInBounds_toArray, List.set_cons_succ, List.set_cons_zero]
  go_wp2_with (fail)
  go_loopw [9] (fun ks wr => ∃ (got : List Nat) (g9 c : Nat), ks = .slice (some ⟨g9, 0, none⟩) got.length c ∧ w0.heap.size ≤ rb ∧ (Value.slice (some ⟨g9, 0, none⟩) got.length c).ownBlock ≠ some rb ∧ Row w0.heap.size wr (.slice (some ⟨g9, 0, none⟩) got.length c) got ∧ got.Nodup ∧ (∀ k ∈ got, k < 256 ∧ (M.lookup k).isSome = true) ∧ Rng Try.prog 5 wr mb rb M got ∧ Fresh w0 wr) (fun _ wr => wr.rangeLeft mb rb)
  case atStart => exact ⟨[], _, _, rfl, hrb.1, hrb.2, HR2.out, List.nodup_nil, fun k hk => (by cases hk), HRN.out, HF02.out⟩
  case round =>
    obtain ⟨got, g9, c, rfl, hrb0, hrb1, hr, hnd, hall, hrg, hF⟩ := hrel
    have HRR := Go.Lib.hid hr
    have HND := Go.Lib.hid hnd
    have HAL := Go.Lib.hid hall
    have HRG := Go.Lib.hid hrg
    have HFF := Go.Lib.hid hF
    clear hr hnd hall hrg hF
    go_wp2_with ((with_reducible refine stop_next (x := .tmp 32) rfl ?_))
    unfold Stop
    refine wpList_next_map (kt := 5) rfl (.tmp 32) rfl Try.underlying5 mb rb M got (by kernel_rfl) HRG.out (fun hdone => ?_) (fun k kv w3 hk hv hno hrg3 hlt hK3 hen => ?_)
    · simp only [Act.put, List.setIfInBounds_toArray, List.set_cons_succ, List.set_cons_zero]
      have hgl := got_le HND.out HAL.out
      rw [HMM.out] at hgl
      have hg9 := HRR.out.block g9 rfl
      have hall2 : ∀ k, k < 256 → ((M.lookup k).isSome = true ↔ k ∈ got) := fun k hk => ⟨hdone k hk, fun h => (HAL.out k h).2⟩
      have HALL := Go.Lib.hid hall2
      clear hdone hall2
      go_wp2_with (fail)
      refine (sort_any w0.heap.size g9 got.length c got wr HRR.out HND.out (by omega)).mono ?_
      rintro e ws ⟨rfl, ks, hperm, hpw, hrs, hKs⟩
      have hkl := hperm.length_eq
      have HRS := Go.Lib.hid hrs
      have HKS := Go.Lib.hid hKs
      have HPM := Go.Lib.hid hperm
      have HPW := Go.Lib.hid hpw
      clear hrs hKs hperm hpw
      go_wp2_with (fail)
      have HDD := Go.Lib.hid hD
      clear hD
      have hOr : Out wr base g hb bb 32767 32768 C 18 0 v [] := hO.out.fresh HFF.out
      have hblw := hO.out.below
      have hOs : Out ws base g hb bb 32767 32768 C 18 0 v [] := hOr.kept HKS.out (fun j hj e => by have := hblw j hj; omega)
      have HOS := Go.Lib.hid hOs
      clear hOr hOs
      have hw0s : w0.heap.size ≤ ws.heap.size := Nat.le_trans HFF.out.size HKS.out.size
      have hbw0 : base ≤ w0.heap.size := Nat.le_trans hbase HK0.out.size
      have HMS : Go.RowKit.Hid (MapIs Try.prog 5 ws mb M) := Go.Lib.hid ((HM0.out.fresh HFF.out).kept HKS.out (fun e => by have := hg9.1; omega))
      have HDS : Go.RowKit.Hid (∀ k z, M.lookup k = some z → Bts ws z (D k) ∧ (∀ j, z.ownBlock = some j → j < base) ∧ (D k).length ≤ 3000) := Go.Lib.hid (fun k z hz => by
        obtain ⟨d1, d2, d3⟩ := HDD.out k z hz
        have hb1 := d1.block
        have d4 := d1.kept HK0.out (fun j hj hs => by have h1 := HOS.out.from j hs; have h2 := d2 j hj; omega)
        have d5 := d4.fresh HFF.out
        exact ⟨d5.kept HKS.out (fun j hj e => by have h1 := hg9.1; have h2 := d2 j hj; omega), d2, d3⟩)
      have hPS : Pw ws ws base g hb bb C w0.heap.size ws.heap.size v [] := ⟨HOS.out, fun j hj => .inl (hblw j hj), Nat.le_trans hbw0 hw0s, Nat.le_refl _, Kept.refl _ _, hc1, hc2⟩
      have HPS := Go.Lib.hid hPS
      have hkl10 : ks.length ≤ 10 := by have h1 := HMM.out; omega
      have hkm : ks.length ≤ m := by omega
      have HG9 := Go.Lib.hid (And.intro hg9.1 (Nat.lt_of_lt_of_le hg9.2 HKS.out.size))
      clear hPS hblw hg9
      generalize ws.heap.size = b1 at *
      generalize w0.heap.size = b0 at *
      go_loopw [46, 8] (fun i off wr2 => ∃ (j o : Nat) (v' : Value), j ≤ ks.length ∧ i = .int .i64 (j : Int) ∧ off = .int .u16 (o : Int) ∧ o = 5 * m + 1 + ((ks.take j).flatMap D).length ∧ o ≤ 51 + 3000 * j ∧ Pw ws wr2 base g hb bb C b0 b1 v' (tabs D (5 * m + 1) (ks.take j))) (fun i _ _ => ks.length - (intOf i).toNat)
      case atStart => exact ⟨0, 5 * m + 1, v, Nat.zero_le _, rfl, by simp, by simp, by omega, HPS.out⟩
      case round =>
        obtain ⟨j, o, v', hj, rfl, rfl, ho, hob, hP⟩ := hrel
        have hrow : Row b0 wr (.slice (some ⟨g9, 0, none⟩) got.length c) ks := HRS.out.kept hP.kept (fun i hi e => by have h2 : g9 = i := Option.some.inj hi; have h1 := HG9.out; omega)
        have HP := Go.Lib.hid hP
        have HOO := Go.Lib.hid ho
        have HOB := Go.Lib.hid hob
        have HROW := Go.Lib.hid hrow
        clear hP ho hob
        by_cases hjn : j < ks.length
        · have hcj := hrow.cellAt j hjn
          clear hrow
          have hkj : ks[j] < 256 ∧ ∃ z, M.lookup ks[j] = some z := by
            have h1 := HAL.out ks[j] (HPM.out.mem_iff.1 (List.getElem_mem hjn))
            exact ⟨h1.1, Option.isSome_iff_exists.1 h1.2⟩
          obtain ⟨hk8, z, hz⟩ := hkj
          obtain ⟨hzb, hzo, hzl⟩ := HDS.out _ z hz
          have htake : ks.take (j + 1) = ks.take j ++ [ks[j]] := List.take_succ_eq_append_getElem hjn
          have HTK := Go.Lib.hid htake
          have htl : (tabs D (5 * m + 1) (ks.take j)).length = 5 * j := by rw [tabs_length, List.length_take]; congr 1; omega
          have HTL := Go.Lib.hid htl
          clear htake htl
          obtain ⟨dk, hdk⟩ : ∃ dk, D ks[j] = dk := ⟨_, rfl⟩
          have HDK := Go.Lib.hid hdk
          rw [hdk] at hzb hzl
          clear hdk
          obtain ⟨A, cz, rfl, hcz⟩ := hzb.slice
          obtain ⟨nz, hnz⟩ : ∃ nz, dk.length = nz := ⟨_, rfl⟩
          rw [hnz] at hzl hcz hz hzb hzo
          have HNZ := Go.Lib.hid hnz
          have HZB := Go.Lib.hid hzb
          have HZO := Go.Lib.hid hzo
          have HZZ := Go.Lib.hid hz
          clear hnz hzb hzo hz
          generalize ks[j] = kj at *
          have HK8 := Go.Lib.hid hk8
          clear hk8
          go_wp2_with (fail)
          refine (pw_byte kj _ HP.out (by rw [HTL.out]; omega)).mono ?_
          rintro e w3 ⟨rfl, hP3⟩
          have HP3 := Go.Lib.hid hP3
          clear hP3
          go_wp2_with (fail)
          have ho16 : o ≤ 40000 := by have := HOB.out; omega
          refine (pw_be o (by omega) _ HP3.out (by rw [List.length_append, HTL.out]; simp; omega)).mono ?_
          rintro e w4 ⟨rfl, v4, hP4⟩
          have hM4 : MapIs Try.prog 5 w4 mb M := HMS.out.kept hP4.kept (fun e => by omega)
          have hlook := hM4.look Try.underlying5 Try.underlying105 (z := .slice none 0 0) (by kernel_rfl) kj HK8.out _ HZZ.out
          have HP4 := Go.Lib.hid hP4
          clear hP4 hM4
          have i1 : (o : Int) ≤ 40000 := by omega
          have i2 : (nz : Int) ≤ 3000 := by omega
          go_wp2_with (fail)
          refine (pw_be nz (by omega) _ HP4.out (by rw [List.length_append, List.length_append, HTL.out]; simp; omega)).mono ?_
          rintro e w5 ⟨rfl, v5, hP5⟩
          have HP5 := Go.Lib.hid hP5
          clear hP5
          go_wp2_with (fail)
          go_roundw
          case rel =>
            have e5 : tabs D (5 * m + 1) (ks.take (j + 1)) = tabs D (5 * m + 1) (ks.take j) ++ [kj] ++ [o / 256 % 256, o % 256] ++ [nz / 256 % 256, nz % 256] := by
              rw [HTK.out, tabs_snoc, ← HOO.out, HDK.out, HNZ.out]
              simp
            have e6 : o + nz = 5 * m + 1 + ((ks.take (j + 1)).flatMap D).length := by
              rw [HTK.out, List.flatMap_append, List.length_append, HOO.out]
              simp [HDK.out, HNZ.out]
              omega
            refine ⟨j + 1, o + nz, v5, hjn, by simp, by simp, e6, by have := HOB.out; omega, ?_⟩
            rw [e5]
            exact HP5.out
          case measure => simp [intOf]; omega
        · have hjk : j = ks.length := by omega
          subst hjk
          rw [List.take_length] at HP
          clear hrow
          have htl : (tabs D (5 * m + 1) ks).length = 5 * ks.length := tabs_length _ _ _
          have HTL := Go.Lib.hid htl
          clear htl
          have i3 : ¬ (ks.length : Int) < (got.length : Int) := by omega
          go_wp2_with (fail)
          refine (pw_byte 255 _ HP.out (by rw [HTL.out]; omega)).mono ?_
          rintro e w3 ⟨rfl, hP3⟩
          have HP3 := Go.Lib.hid hP3
          clear hP3
          go_wp2_with (fail)
          go_loopw [89] (fun i wr3 => ∃ (j : Nat) (v' : Value), j ≤ ks.length ∧ i = .int .i64 (j : Int) ∧ ((ks.take j).flatMap D).length ≤ 3000 * j ∧ Pw ws wr3 base g hb bb C b0 b1 v' (tabs D (5 * m + 1) ks ++ [255] ++ (ks.take j).flatMap D)) (fun i _ => ks.length - (intOf i).toNat)
          case atStart => exact ⟨0, _, Nat.zero_le _, rfl, by simp, by simpa using HP3.out⟩
          case round =>
            obtain ⟨j, v3, hj3, rfl, hlen, hP⟩ := hrel
            have hrow : Row b0 wr (.slice (some ⟨g9, 0, none⟩) got.length c) ks := HRS.out.kept hP.kept (fun i hi e => by have h2 : g9 = i := Option.some.inj hi; have h1 := HG9.out; omega)
            clear HP HP3
            have HP := Go.Lib.hid hP
            have HLEN := Go.Lib.hid hlen
            clear hlen
            by_cases hjn : j < ks.length
            · have hcj := hrow.cellAt j hjn
              clear hrow
              have hkj : ks[j] < 256 ∧ ∃ z, M.lookup ks[j] = some z := by
                have h1 := HAL.out ks[j] (HPM.out.mem_iff.1 (List.getElem_mem hjn))
                exact ⟨h1.1, Option.isSome_iff_exists.1 h1.2⟩
              obtain ⟨hk8, z, hz⟩ := hkj
              obtain ⟨hzb, hzo, hzl⟩ := HDS.out _ z hz
              have hzw := hzb.kept hP.kept (fun i hi e => by have := hzo i hi; omega)
              have HTK := Go.Lib.hid (List.take_succ_eq_append_getElem hjn)
              obtain ⟨dk, hdk⟩ : ∃ dk, D ks[j] = dk := ⟨_, rfl⟩
              have HDK := Go.Lib.hid hdk
              rw [hdk] at hzb hzl hzw
              clear hdk
              obtain ⟨A, cz, rfl, hcz⟩ := hzb.slice
              obtain ⟨nz, hnz⟩ : ∃ nz, dk.length = nz := ⟨_, rfl⟩
              rw [hnz] at hzl hcz hz hzo hzw
              have HNZ := Go.Lib.hid hnz
              have HZB := Go.Lib.hid hzw
              have HZO := Go.Lib.hid hzo
              have HZZ := Go.Lib.hid hz
              have hM4 : MapIs Try.prog 5 wr mb M := HMS.out.kept hP.kept (fun e => by omega)
              have hlook := hM4.look Try.underlying5 Try.underlying105 (z := .slice none 0 0) (by kernel_rfl) ks[j] hk8 _ HZZ.out
              clear hnz hzb hzo hz hzw hP hM4
              generalize ks[j] = kj at *
              have HK8 := Go.Lib.hid hk8
              clear hk8
              go_wp2_with (fail)
              refine (pw_write _ dk _ HP.out HZB.out HZO.out (by rw [List.length_append, List.length_append, HTL.out, HNZ.out]; have := HLEN.out; simp only [List.length_cons, List.length_nil]; omega)).mono ?_
              rintro e w4 ⟨rfl, v4, hP4⟩
              rw [HNZ.out]
              have HP4 := Go.Lib.hid hP4
              clear hP4
              go_wp2_with (fail)
              go_roundw
              case rel =>
                refine ⟨j + 1, v4, hjn, by simp, ?_, ?_⟩
                · rw [HTK.out, List.flatMap_append, List.length_append]
                  have h1 : ([kj].flatMap D).length = nz := by simp [HDK.out, HNZ.out]
                  have := HLEN.out
                  omega
                · rw [HTK.out, List.flatMap_append, ← List.append_assoc]
                  simpa [HDK.out] using HP4.out
              case measure => simp [intOf]; omega
            · have hjk : j = ks.length := by omega
              subst hjk
              clear hrow
              rw [List.take_length] at HP HLEN
              have i4 : ¬ (ks.length : Int) < (got.length : Int) := by omega
              go_wp2_with (fail)
              refine (pw_finish _ HP.out (by rw [List.length_append, List.length_append, HTL.out]; have := HLEN.out; simp only [List.length_cons, List.length_nil]; omega)).mono ?_
              rintro e w5 ⟨rfl, v5, L, seq, l, hR, hpk, hK5⟩
              have HR5 := Go.Lib.hid hR
              have HPK := Go.Lib.hid hpk
              have HK5 := Go.Lib.hid hK5
              clear hR hpk hK5 hP
              go_wp2_with (fail)
              go_ret
              have hKw : Kept w ws (fun j => base ≤ j) := ((HK0.out.mono (fun j _ hj => HOS.out.from j hj)).fresh HFF.out).trans HKS.out (fun j _ hj => by have := HG9.out; omega)
              exact ⟨rfl, ks, HPW.out, fun k hk => (HAL.out k (HPM.out.mem_iff.1 hk)).1, fun k hk => (HALL.out k hk).trans HPM.out.mem_iff.symm, v5, L, seq, l, HR5.out, by rw [HMM.out]; exact HPK.out, hKw.trans HK5.out (fun _ _ h => h)⟩
    · simp only [Act.put, List.setIfInBounds_toArray, List.set_cons_succ, List.set_cons_zero]
      obtain ⟨hb3, hr3, hrb3⟩ := hrg3.lt
      have HK3 := Go.Lib.hid hK3
      have HRG3 := Go.Lib.hid hrg3
      have hnj := HRR.out.len
      clear hK3 hrg3
      go_wp2_with (first | (with_reducible refine stop_call (c := _) rfl ?_) | fail)
      all_goals unfold Stop
      all_goals
        have hsz3 := HK3.out.size
        have hszF := HFF.out.size
        have hgl := got_le HND.out HAL.out
        rw [HMM.out] at hgl
        refine wpList_append_bts _ rfl (.tmp 37) (.tmp 39) 174 174 rfl w0.heap.size i0 Try.underlying174 Try.underlying174 hi hz0 hz1 hz2 (.slice (some ⟨g9, 0, none⟩) got.length c) (.slice (some ⟨w3.heap.size, 0, none⟩) 1 1) rfl rfl got [k] ?r1 (byte_new w3 _ _ rfl 5) ?r2 ?r3 ?_
        case r1 => exact (HRR.out.kept HK3.out (fun j hj e => hrb1 (e ▸ hj))).fresh ((Kept.refl w3 (fun _ => False)).alloc _)
        case r2 => simp; omega
        case r3 => simp; omega
        intro A2 c2 w4 hr4 hg4 hm4
        have hF3 : Fresh w3 (w3.alloc (.cells #[.int .u8 (k : Int)] 5)) := (Kept.refl w3 (fun _ => False)).alloc _
        have hK4 : Kept w3 w4 (fun j => (Value.slice (some ⟨g9, 0, none⟩) got.length c).ownBlock = some j) := (Kept.refl w3 _ |>.fresh hF3).trans (Kept.of_grown hg4) (fun j hj e => e)
        have hne : (Value.slice A2 (got.length + [k].length) c2).ownBlock ≠ some rb := fun e => by
          rcases hm4 rb e with h | h
          · exact hrb1 h
          · simp at h; omega
        have hob : ∀ j, (Value.slice (some ⟨g9, 0, none⟩) got.length c).ownBlock = some j → w0.heap.size ≤ j := fun j hj => (HRR.out.block j hj).1
        have hmb0 : mb < w0.heap.size := HM0.out.lt
        have hF4 : Fresh w0 w4 := (HFF.out.trans HK3.out (fun j hj e => by omega)).trans hK4 (fun j hj e => by have := hob j e; omega)
        have hR4 : Rng Try.prog 5 w4 mb rb M (got ++ [k]) := HRG3.out.kept hK4 (fun e => by have := hob mb e; omega) hrb1
        have hL4 : w4.rangeLeft mb rb < wr.rangeLeft mb rb := by
          rw [Rng.left (hK4.block mb hb3 (fun e => by have := hob mb e; omega)) (hK4.block rb hr3 hrb1)]
          exact hlt
        have e1 : got.length + [k].length = (got ++ [k]).length := by simp
        rw [e1] at hr4 hne ⊢
        obtain ⟨g2, rfl, -⟩ := hr4.form (by simp)
        simp only [Act.put, List.setIfInBounds_toArray, List.set_cons_succ, List.set_cons_zero]
        clear hg4 hm4
        have HR4 := Go.Lib.hid hr4
        have HRG4 := Go.Lib.hid hR4
        have HF4 := Go.Lib.hid hF4
        clear hr4 hR4 hF4 e1
        go_wp2
        go_roundw
        case rel => exact ⟨got ++ [k], g2, c2, rfl, hrb0, hne, HR4.out, List.nodup_append.2 ⟨HND.out, by simp, by intro a ha b hb e; simp at hb; subst hb; exact hno (e ▸ ha)⟩, fun x hx => by (rcases List.mem_append.1 hx with h | h); exact HAL.out x h; (simp at h; subst h; exact ⟨hk, by rw [hv]; rfl⟩), HRG4.out, HF4.out⟩
        case measure => exact hL4
end Go.Proofs.Ytahcaoenddapoaa
