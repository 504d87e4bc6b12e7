/- EncodeDecimal. -/
import Derived.Test.YthmopakaikhjlaaGreatDoorEdc
import Derived.Test.YthmopakaikhjlaaGreatDoorCln
import Derived.Deep.Cut
namespace Go.Proofs.YthmopakaikhjlaaGreatDoor
open Go.RowKit

theorem isEmpty_of (u : ByteArray) : u.toList.isEmpty = decide (u.size = 0) := by
  rw [ByteArray.toList_eq]
  cases h : u.data.toList with
  | nil => have : u.size = 0 := congrArg List.length h; simp [this]
  | cons a l => have h1 : u.size = l.length + 1 := congrArg List.length h; simp [h1]

theorem point_text (neg : Bool) (D : List Nat) (hD : ∀ d ∈ D, d ≤ 9) (U A1 B1 : ByteArray) (m S : Nat) (hU : strOf (dtx D) = U) (hA : U.extract 0 m = A1) (hB : U.extract m U.size = B1) (hm : U.size = m + S) :
    Clean (strOf (sgl neg) ++ (A1 ++ ({ data := #[46] } : ByteArray) ++ B1)) (strOf (sgl neg) ++ strOf (dtx D)) S := by
  have hl : D.length = m + S := by
    have := strOf_size (dtx D)
    rw [hU, hm] at this
    simpa using this.symm
  have h := clean1 neg (D.take m) (D.drop m) (fun d hd => hD d (List.mem_of_mem_drop hd))
  rw [List.take_append_drop, List.length_drop, show D.length - m = S by omega] at h
  have e : A1 ++ ({ data := #[46] } : ByteArray) ++ B1 = strOf (dtx (D.take m) ++ 46 :: dtx (D.drop m)) := by
    rw [← hA, ← hB, ← hU, strOf_extract, strOf_extract, show ({ data := #[46] } : ByteArray) = strOf [46] from rfl, ← strOf_append, ← strOf_append]
    congr 1
    rw [strOf_size, List.take_length, List.drop_zero, List.append_assoc]
    unfold dtx
    rw [List.map_take, List.map_drop]
    rfl
  rw [e]
  exact h

/-- How far the loop still has to go. -/
def bsz (w : World) (q S : Nat) : Nat := match w.cell? ⟨q + 3, 0, none⟩ with | some (.string b) => S + 1 - b.size | _ => 0
theorem bsz_of {w : World} {q : Nat} {sg body : ByteArray} {P S : Nat} (h : Ev w q sg body P S) : bsz w q S = S + 1 - body.size := by
  unfold bsz
  rw [h.cb]

theorem enter21 (caps : Array Value) (W : World) : (callFunc 21 caps).run Tryz.prog W = .ok (.enter 21 caps) W := run_enter Tryz.func21 (by kernel_rfl) (by kernel_rfl) caps W

/-- What the closure's call brings, with k noughts ahead and the text body behind the sign. -/
theorem made_of (s : ByteArray) (P S : Nat) (eb : Addr) (neg : Bool) (ds : List Nat) (hp : Prop10 s P neg ds) (hP : P ≤ 38) (hS : S ≤ P) (l : List Nat) (hl : (if neg then 0 else 1) :: leB (dv ds) (mag P) = l)
    (k q : Nat) (body t : ByteArray) (hk : k = 0 ∨ k + ds.length ≤ S + 1) (hc : Clean (strOf (sgl neg) ++ body) t S) (ht : t = strOf (sgl neg) ++ strOf (dtx (List.replicate k 0 ++ ds))) (hbs : body.size ≤ 50) (w : World) (he : w.cell? ⟨2, 0, none⟩ = some (eofV eb)) (hE : Ev w q (strOf (sgl neg)) body P S) :
    Calls Tryz.prog 20 #[.func (.func 21) #[] #[.pointer (some ⟨q + 2, 0, none⟩), .pointer (some ⟨q + 3, 0, none⟩), .pointer (some ⟨q, 0, none⟩), .pointer (some ⟨q + 1, 0, none⟩)]] w fun e w' => ∃ v, e = .returned (.tuple #[v, .bool true]) ∧ Row w.heap.size w' v l ∧ Fresh w w' := by
  have hle : ∀ d ∈ List.replicate k 0 ++ ds, d ≤ 9 := by
    intro d hd
    rcases List.mem_append.1 hd with h | h
    · rw [(List.mem_replicate.1 h).2]; omega
    · exact hp.le d h
  have hne : List.replicate k 0 ++ ds ≠ [] := fun h => hp.ne (List.append_eq_nil_iff.1 h).2
  have hlen : (List.replicate k 0 ++ ds).length ≤ 39 := by
    have := hp.few
    rw [List.length_append, List.length_replicate]
    omega
  have hn := numb_of neg _ hle hlen hne
  rw [← ht] at hn
  have hdv := dv_zeros k ds
  have hb : dv (List.replicate k 0 ++ ds) < 10 ^ P := by
    rw [hdv]
    exact Nat.lt_of_lt_of_le (dv_lt ds hp.le) (Nat.pow_le_pow_right (by decide) hp.few)
  have hz : neg = true → dv (List.replicate k 0 ++ ds) ≠ 0 := fun h => by
    rw [hdv]
    refine dv_pos ds hp.ne ?_
    rcases hp.lead with h1 | h1
    · exact absurd h1 (hp.negz h)
    · exact h1
  have hsz : (strOf (sgl neg) ++ body).size ≤ 100 := by
    rw [ByteArray.size_append, strOf_size, sgl_length]
    split <;> omega
  have hll : l.length ≤ 140737488355328 := by
    rw [← hl, List.length_cons, leB_length]
    have : mag P ≤ 16 := by unfold mag; split <;> (try omega); split <;> (try omega); split <;> omega
    omega
  exact made_any 21 _ l hll w (enter21 _) fun W hW => encClos_any q (strOf (sgl neg)) body t P S eb neg _ hP (by omega) hc hsz hn hz hb W (hW.held he (fun h => h)) (hE.kept hW) l (by rw [hdv]; exact hl)

set_option maxRecDepth 100000 in
set_option maxHeartbeats 4000000 in
theorem encDec_any (s : ByteArray) (P S : Nat) (eb : Addr) (neg : Bool) (ds : List Nat) (hp : Prop10 s P neg ds) (hP : P ≤ 38) (hS : S ≤ P) (w : World) (he : w.cell? ⟨2, 0, none⟩ = some (eofV eb)) (l : List Nat) (hl : (if neg then 0 else 1) :: leB (dv ds) (mag P) = l) :
    Calls Tryz.prog 7 #[.string s, .int .i64 (P : Int), .int .i64 (S : Int)] w fun e w' => ∃ v, e = .returned (.tuple #[v, .bool true]) ∧ Row w.heap.size w' v l ∧ Fresh w w' := by
  have i1 : (P : Int) ≤ 38 := by omega
  have i2 : (S : Int) ≤ 38 := by omega
  have heq := hp.eq
  have hmade := made_of s P S eb neg ds hp hP hS l hl
  have hne := List.length_pos_iff.2 hp.ne
  have hfew := hp.few
  have hle := hp.le
  have hsz : s.size = (if neg then 1 else 0) + ds.length := by
    rw [heq, strOf_size, List.length_append]
    cases neg <;> simp
  have g1 : s.toList.isEmpty = false := by rw [isEmpty_of]; exact decide_eq_false (by omega)
  have g2 : 0 < s.size := by omega
  have HP := Go.Lib.hid hp
  have HQ := Go.Lib.hid heq
  have HM := Go.Lib.hid hmade
  have HEO := Go.Lib.hid he
  clear hmade hl he
  cases neg with
  | false =>
    have g0 : s[0].toNat ≠ 45 := by
      have h1 : 0 < (strOf ([] ++ dtx ds)).size := by rw [strOf_size]; simp; omega
      have h2 := strOf_get ([] ++ dtx ds) 0 h1 (by simp; omega)
      have h3 : s[0].toNat = (strOf ([] ++ dtx ds))[0].toNat := by congr 2
      rw [h3, h2]
      have h4 := dtx_in hle _ (List.getElem_mem (by simpa using hne : 0 < (dtx ds).length))
      simp only [List.nil_append]
      omega
    have g3 : (((s[0].toNat : Nat) : Int) == 45) = false := by simp; omega
    have g4 : (s[0].toNat == 45) = false := by simpa using g0
    have HLE := Go.Lib.hid hle
    have hsz2 : s.size ≤ 39 := by rw [hsz]; simp; omega
    clear hp heq hle hsz
    go_enter Tryz.func7, Tryz.ntmps7
    go_upto_region 6 with (fail)
    have hEv := Ev.new w ⟨#[]⟩ s P S
    have hF : Fresh w ((((w.alloc (one (.int .i64 (P : Int)) 3)).alloc (one (.int .i64 (S : Int)) 3)).alloc (one (.string ⟨#[]⟩) 9)).alloc (one (.string s) 9)) := ((((Kept.refl w _).alloc _).alloc _).alloc _).alloc _
    obtain ⟨q, hq⟩ : ∃ q, w.heap.size = q := ⟨_, rfl⟩
    rw [hq] at hEv ⊢
    rw [show q + 1 + 1 = q + 2 from rfl, show q + 2 + 1 = q + 3 from rfl]
    generalize (((w.alloc (one (.int .i64 (P : Int)) 3)).alloc (one (.int .i64 (S : Int)) 3)).alloc (one (.string ⟨#[]⟩) 9)).alloc (one (.string s) 9) = w1 at *
    rw [show s = strOf (dtx ds) from HQ.out] at hEv
    have HE2 := Go.Lib.hid (And.intro hEv hF)
    clear hEv hF
    go_loopw [] (fun wr => ∃ k : Nat, (k = 0 ∨ k + ds.length ≤ S + 1) ∧ Ev wr q (strOf (sgl false)) (strOf (dtx (List.replicate k 0 ++ ds))) P S ∧ Fresh w wr) (fun wr => bsz wr q S)
    case atStart => exact ⟨0, .inl rfl, HE2.out.1, HE2.out.2⟩
    case round =>
      obtain ⟨k, hk, hev, hfr⟩ := hrel
      have hUs : (strOf (dtx (List.replicate k 0 ++ ds))).size = k + ds.length := by rw [strOf_size]; simp
      have hcat : ({ data := #[48] } : ByteArray) ++ strOf (dtx (List.replicate k 0 ++ ds)) = strOf (dtx (List.replicate (k + 1) 0 ++ ds)) := by
        rw [show ({ data := #[48] } : ByteArray) = strOf [48] from rfl, ← strOf_append]
        rfl
      have hU2 : (strOf (dtx (List.replicate (k + 1) 0 ++ ds))).size = k + 1 + ds.length := by rw [strOf_size]; simp
      have cs := hev.cs
      have cb := hev.cb
      have fb := hev.fb
      have HEV := Go.Lib.hid (And.intro hev hfr)
      obtain ⟨U, hU⟩ : ∃ U, strOf (dtx (List.replicate k 0 ++ ds)) = U := ⟨_, rfl⟩
      obtain ⟨U2, hUU⟩ : ∃ U2, strOf (dtx (List.replicate (k + 1) 0 ++ ds)) = U2 := ⟨_, rfl⟩
      rw [hU] at hUs hcat cb HEV
      rw [hUU] at hcat hU2
      have HU := Go.Lib.hid (And.intro hU (And.intro hUU hU2))
      have z1 : (U.size : Int) ≤ 100 := by omega
      have z2 : U.size ≤ 100 := by omega
      have z3 : (U.size : Int) = (k : Int) + (ds.length : Int) := by omega
      clear hev hfr hU hUU hU2
      by_cases hL : k + ds.length ≤ S
      · have z4 : (U.size : Int) ≤ (S : Int) := by omega
        have HUS := Go.Lib.hid hUs
        clear z3 hUs
        go_wp2_with (fail)
        go_roundw
        case rel =>
          refine ⟨k + 1, .inr (by omega), ?_, HEV.out.2.setCell (p := ⟨q + 3, 0, none⟩) (.inr (by rw [hq]; show q ≤ q + 3; omega)) _⟩
          rw [HU.out.2.1]
          exact HEV.out.1.setB U2
        case measure =>
          rw [bsz_of (HEV.out.1.setB U2), bsz_of HEV.out.1, HU.out.2.2, HUS.out]
          omega
      · have z4 : ¬ (U.size : Int) ≤ (S : Int) := by omega
        by_cases hS0 : S = 0
        · have z5 : ¬ (0 : Int) < (S : Int) := by omega
          have hc := clean0 false (List.replicate k 0 ++ ds) (fun d hd => by
            rcases List.mem_append.1 hd with h | h
            · rw [(List.mem_replicate.1 h).2]; omega
            · exact HLE.out d h)
          rw [HU.out.1] at hc
          have HMM := Go.Lib.hid (HM.out k q U (strOf (sgl false) ++ U) hk (by rw [hS0]; exact hc) (by rw [HU.out.1]) (by omega) wr (HEV.out.2.held HEO.out (fun h => h)) HEV.out.1)
          clear hc hcat
          go_wp2_with (fail)
          refine HMM.out.mono ?_
          rintro e w9 ⟨v, rfl, hR, hF⟩
          have HR := Go.Lib.hid (And.intro (hR.lower HEV.out.2.size) (HEV.out.2.fresh hF))
          clear hR hF
          go_wp2_with (fail)
          go_ret2
          exact ⟨v, rfl, HR.out.1, HR.out.2⟩
        · have z5 : (0 : Int) < (S : Int) := by omega
          obtain ⟨m, hm⟩ : ∃ m, U.size = m + S := ⟨U.size - S, by omega⟩
          have e5 : (U.size : Int) - (S : Int) = (m : Int) := by omega
          have e6 : IntKind.i64.wrap (m : Int) = (m : Int) := IntWalk.i64_in _ (by omega)
          have e7 : (m : Int) ≤ (U.size : Int) := by omega
          have e8 : (0 : Int) ≤ (m : Int) := by omega
          have hA1 : (U.extract 0 m).size ≤ 100 := by rw [ByteArray.size_extract]; omega
          have hB1 : (U.extract m U.size).size ≤ 100 := by rw [ByteArray.size_extract]; omega
          obtain ⟨A1, hAe⟩ : ∃ A1, U.extract 0 m = A1 := ⟨_, rfl⟩
          obtain ⟨B1, hBe⟩ : ∃ B1, U.extract m U.size = B1 := ⟨_, rfl⟩
          rw [hAe] at hA1
          rw [hBe] at hB1
          have HAB := Go.Lib.hid (And.intro hAe (And.intro hBe (And.intro hm z3)))
          have hA2 : (A1 ++ ({ data := #[46] } : ByteArray)).size ≤ 101 := by rw [ByteArray.size_append]; show A1.size + 1 ≤ 101; omega
          have s1 : ¬ 9223372036854775807 < A1.size + 1 := by omega
          have s2 : ¬ 9223372036854775807 < A1.size + 1 + B1.size := by omega
          clear hUs z3 hm
          go_upto_region 9 with (fail)
          go_still_tail 14, (by kernel_rfl)
          go_wp2_with (fail)
          have hc := point_text false (List.replicate k 0 ++ ds) (fun d hd => by
            rcases List.mem_append.1 hd with h | h
            · rw [(List.mem_replicate.1 h).2]; omega
            · exact HLE.out d h) U A1 B1 m S HU.out.1 HAB.out.1 HAB.out.2.1 HAB.out.2.2.1
          have hEv9 := (HEV.out.1.setB (A1 ++ ({ data := #[46] } : ByteArray) ++ B1)).kept ((Kept.refl _ (fun _ => False)).drew)
          have hF9 : Fresh w (wr.setCell ⟨q + 3, 0, none⟩ (.string (A1 ++ ({ data := #[46] } : ByteArray) ++ B1))).drew := (HEV.out.2.setCell (p := ⟨q + 3, 0, none⟩) (.inr (by rw [hq]; show q ≤ q + 3; omega)) _).drew
          have hbs : (A1 ++ ({ data := #[46] } : ByteArray) ++ B1).size ≤ 50 := by
            have h1 : A1.size ≤ m := by rw [← HAB.out.1, ByteArray.size_extract]; omega
            have h2 : B1.size ≤ U.size - m := by rw [← HAB.out.2.1, ByteArray.size_extract]; omega
            have h3 := HAB.out.2.2.1
            have h4 := HAB.out.2.2.2
            rw [ByteArray.size_append, ByteArray.size_append]
            show A1.size + 1 + B1.size ≤ 50
            omega
          have HMM := Go.Lib.hid (HM.out k q _ _ hk hc rfl hbs _ (hF9.held HEO.out (fun h => h)) hEv9)
          clear hc hcat
          refine HMM.out.mono ?_
          rintro e w9 ⟨v, rfl, hR, hF⟩
          have HR := Go.Lib.hid (And.intro (hR.lower hF9.size) (hF9.fresh hF))
          clear hR hF
          go_wp2_with (fail)
          go_ret2
          exact ⟨v, rfl, HR.out.1, HR.out.2⟩
  | true =>
    have g0 : s[0].toNat = 45 := by
      have h1 : 0 < (strOf ([45] ++ dtx ds)).size := by rw [strOf_size]; simp
      have h2 := strOf_get ([45] ++ dtx ds) 0 h1 (by simp)
      have h3 : s[0].toNat = (strOf ([45] ++ dtx ds))[0].toNat := by congr 2
      rw [h3, h2]
      rfl
    have g3 : (((s[0].toNat : Nat) : Int) == 45) = true := by simp; omega
    have g4 : (s[0].toNat == 45) = true := by simpa using g0
    have HLE := Go.Lib.hid hle
    have hsz2 : s.size ≤ 39 := by rw [hsz]; simp; omega
    clear hp heq hle hsz
    go_enter Tryz.func7, Tryz.ntmps7
    go_upto_region 5 with (fail)
    have hEv := Ev.new w ⟨#[]⟩ s P S
    have hF : Fresh w ((((w.alloc (one (.int .i64 (P : Int)) 3)).alloc (one (.int .i64 (S : Int)) 3)).alloc (one (.string ⟨#[]⟩) 9)).alloc (one (.string s) 9)) := ((((Kept.refl w _).alloc _).alloc _).alloc _).alloc _
    obtain ⟨q, hq⟩ : ∃ q, w.heap.size = q := ⟨_, rfl⟩
    rw [hq] at hEv ⊢
    rw [show q + 1 + 1 = q + 2 from rfl, show q + 2 + 1 = q + 3 from rfl]
    generalize (((w.alloc (one (.int .i64 (P : Int)) 3)).alloc (one (.int .i64 (S : Int)) 3)).alloc (one (.string ⟨#[]⟩) 9)).alloc (one (.string s) 9) = w1 at *
    have c3 := hEv.cb
    have c2 := hEv.cg
    have f2 := hEv.fg
    have f3 := hEv.fb
    have HE := Go.Lib.hid (And.intro hEv hF)
    clear hEv hF
    go_region
    go_upto_region 6 with (fail)
    have hu : s.extract 1 s.size = strOf (dtx ds) := by
      have h : s = strOf (45 :: dtx ds) := by simpa using HQ.out
      rw [h, strOf_extract, strOf_size]
      congr 1
      rw [List.take_length, List.drop_succ_cons, List.drop_zero]
    have hEv2 := ((HE.out.1.setG ⟨#[45]⟩).setB (s.extract 1 s.size)).kept ((Kept.refl _ (fun _ => False)).drew)
    have hF2 : Fresh w (((w1.setCell ⟨q + 2, 0, none⟩ (.string ⟨#[45]⟩)).setCell ⟨q + 3, 0, none⟩ (.string (s.extract 1 s.size))).drew) := (HE.out.2.trans ((((Kept.refl w1 (fun k => q ≤ k)).setCell (p := ⟨q + 2, 0, none⟩) (.inl (by show q ≤ q + 2; omega)) _).setCell (p := ⟨q + 3, 0, none⟩) (.inl (by show q ≤ q + 3; omega)) _).drew) (fun k hk e => by omega))
    generalize ((w1.setCell ⟨q + 2, 0, none⟩ (.string ⟨#[45]⟩)).setCell ⟨q + 3, 0, none⟩ (.string (s.extract 1 s.size))).drew = w2 at *
    rw [hu] at hEv2
    have HE2 := Go.Lib.hid (And.intro hEv2 hF2)
    clear hEv2 hF2 c3 c2 f2 f3 HE hu
    go_loopw [] (fun wr => ∃ k : Nat, (k = 0 ∨ k + ds.length ≤ S + 1) ∧ Ev wr q (strOf (sgl true)) (strOf (dtx (List.replicate k 0 ++ ds))) P S ∧ Fresh w wr) (fun wr => bsz wr q S)
    case atStart => exact ⟨0, .inl rfl, HE2.out.1, HE2.out.2⟩
    case round =>
      obtain ⟨k, hk, hev, hfr⟩ := hrel
      have hUs : (strOf (dtx (List.replicate k 0 ++ ds))).size = k + ds.length := by rw [strOf_size]; simp
      have hcat : ({ data := #[48] } : ByteArray) ++ strOf (dtx (List.replicate k 0 ++ ds)) = strOf (dtx (List.replicate (k + 1) 0 ++ ds)) := by
        rw [show ({ data := #[48] } : ByteArray) = strOf [48] from rfl, ← strOf_append]
        rfl
      have hU2 : (strOf (dtx (List.replicate (k + 1) 0 ++ ds))).size = k + 1 + ds.length := by rw [strOf_size]; simp
      have cs := hev.cs
      have cb := hev.cb
      have fb := hev.fb
      have HEV := Go.Lib.hid (And.intro hev hfr)
      obtain ⟨U, hU⟩ : ∃ U, strOf (dtx (List.replicate k 0 ++ ds)) = U := ⟨_, rfl⟩
      obtain ⟨U2, hUU⟩ : ∃ U2, strOf (dtx (List.replicate (k + 1) 0 ++ ds)) = U2 := ⟨_, rfl⟩
      rw [hU] at hUs hcat cb HEV
      rw [hUU] at hcat hU2
      have HU := Go.Lib.hid (And.intro hU (And.intro hUU hU2))
      have z1 : (U.size : Int) ≤ 100 := by omega
      have z2 : U.size ≤ 100 := by omega
      have z3 : (U.size : Int) = (k : Int) + (ds.length : Int) := by omega
      clear hev hfr hU hUU hU2
      by_cases hL : k + ds.length ≤ S
      · have z4 : (U.size : Int) ≤ (S : Int) := by omega
        have HUS := Go.Lib.hid hUs
        clear z3 hUs
        go_wp2_with (fail)
        go_roundw
        case rel =>
          refine ⟨k + 1, .inr (by omega), ?_, HEV.out.2.setCell (p := ⟨q + 3, 0, none⟩) (.inr (by rw [hq]; show q ≤ q + 3; omega)) _⟩
          rw [HU.out.2.1]
          exact HEV.out.1.setB U2
        case measure =>
          rw [bsz_of (HEV.out.1.setB U2), bsz_of HEV.out.1, HU.out.2.2, HUS.out]
          omega
      · have z4 : ¬ (U.size : Int) ≤ (S : Int) := by omega
        by_cases hS0 : S = 0
        · have z5 : ¬ (0 : Int) < (S : Int) := by omega
          have hc := clean0 true (List.replicate k 0 ++ ds) (fun d hd => by
            rcases List.mem_append.1 hd with h | h
            · rw [(List.mem_replicate.1 h).2]; omega
            · exact HLE.out d h)
          rw [HU.out.1] at hc
          have HMM := Go.Lib.hid (HM.out k q U (strOf (sgl true) ++ U) hk (by rw [hS0]; exact hc) (by rw [HU.out.1]) (by omega) wr (HEV.out.2.held HEO.out (fun h => h)) HEV.out.1)
          clear hc hcat
          go_wp2_with (fail)
          refine HMM.out.mono ?_
          rintro e w9 ⟨v, rfl, hR, hF⟩
          have HR := Go.Lib.hid (And.intro (hR.lower HEV.out.2.size) (HEV.out.2.fresh hF))
          clear hR hF
          go_wp2_with (fail)
          go_ret2
          exact ⟨v, rfl, HR.out.1, HR.out.2⟩
        · have z5 : (0 : Int) < (S : Int) := by omega
          obtain ⟨m, hm⟩ : ∃ m, U.size = m + S := ⟨U.size - S, by omega⟩
          have e5 : (U.size : Int) - (S : Int) = (m : Int) := by omega
          have e6 : IntKind.i64.wrap (m : Int) = (m : Int) := IntWalk.i64_in _ (by omega)
          have e7 : (m : Int) ≤ (U.size : Int) := by omega
          have e8 : (0 : Int) ≤ (m : Int) := by omega
          have hA1 : (U.extract 0 m).size ≤ 100 := by rw [ByteArray.size_extract]; omega
          have hB1 : (U.extract m U.size).size ≤ 100 := by rw [ByteArray.size_extract]; omega
          obtain ⟨A1, hAe⟩ : ∃ A1, U.extract 0 m = A1 := ⟨_, rfl⟩
          obtain ⟨B1, hBe⟩ : ∃ B1, U.extract m U.size = B1 := ⟨_, rfl⟩
          rw [hAe] at hA1
          rw [hBe] at hB1
          have HAB := Go.Lib.hid (And.intro hAe (And.intro hBe (And.intro hm z3)))
          have hA2 : (A1 ++ ({ data := #[46] } : ByteArray)).size ≤ 101 := by rw [ByteArray.size_append]; show A1.size + 1 ≤ 101; omega
          have s1 : ¬ 9223372036854775807 < A1.size + 1 := by omega
          have s2 : ¬ 9223372036854775807 < A1.size + 1 + B1.size := by omega
          clear hUs z3 hm
          go_upto_region 9 with (fail)
          go_still_tail 14, (by kernel_rfl)
          go_wp2_with (fail)
          have hc := point_text true (List.replicate k 0 ++ ds) (fun d hd => by
            rcases List.mem_append.1 hd with h | h
            · rw [(List.mem_replicate.1 h).2]; omega
            · exact HLE.out d h) U A1 B1 m S HU.out.1 HAB.out.1 HAB.out.2.1 HAB.out.2.2.1
          have hEv9 := (HEV.out.1.setB (A1 ++ ({ data := #[46] } : ByteArray) ++ B1)).kept ((Kept.refl _ (fun _ => False)).drew)
          have hF9 : Fresh w (wr.setCell ⟨q + 3, 0, none⟩ (.string (A1 ++ ({ data := #[46] } : ByteArray) ++ B1))).drew := (HEV.out.2.setCell (p := ⟨q + 3, 0, none⟩) (.inr (by rw [hq]; show q ≤ q + 3; omega)) _).drew
          have hbs : (A1 ++ ({ data := #[46] } : ByteArray) ++ B1).size ≤ 50 := by
            have h1 : A1.size ≤ m := by rw [← HAB.out.1, ByteArray.size_extract]; omega
            have h2 : B1.size ≤ U.size - m := by rw [← HAB.out.2.1, ByteArray.size_extract]; omega
            have h3 := HAB.out.2.2.1
            have h4 := HAB.out.2.2.2
            rw [ByteArray.size_append, ByteArray.size_append]
            show A1.size + 1 + B1.size ≤ 50
            omega
          have HMM := Go.Lib.hid (HM.out k q _ _ hk hc rfl hbs _ (hF9.held HEO.out (fun h => h)) hEv9)
          clear hc hcat
          refine HMM.out.mono ?_
          rintro e w9 ⟨v, rfl, hR, hF⟩
          have HR := Go.Lib.hid (And.intro (hR.lower hF9.size) (hF9.fresh hF))
          clear hR hF
          go_wp2_with (fail)
          go_ret2
          exact ⟨v, rfl, HR.out.1, HR.out.2⟩
end Go.Proofs.YthmopakaikhjlaaGreatDoor
