/- The builtin copy of words. -/
import Derived.Test.YthmopakaikhjlaaGreatDoorMk
import Derived.Test.YthmopakaikhjlaaGreatDoorPut
import Derived.Laws.CopyOwn
import Derived.Lib.Hide
import Derived.OwnWalk
namespace Go.Proofs.YthmopakaikhjlaaGreatDoor
open Go.RowKit

section
variable {P : Program}
theorem wpList_copyW {ops : Array Oper} {rest : List Oper} {o : Oper} {a : Act} {w : World} {Q : Exit → Act → World → Prop} (hgd : o.guard = none) (d s : Operand) (dT sT : TypeId)
    (ho : o.op = .call { callee := .builtin .copy, args := #[d, s], argTypes := #[dT, sT] }) (hu : P.underlying dT = some (.slice 102)) (hsz : (P.info? 102).map (·.size) = some 1)
    (g dCap b c : Nat) (m C : List Nat) (hd : a.eval d = .slice (some ⟨g, 0, none⟩) m.length dCap) (hs : a.eval s = .slice (some ⟨b, 0, none⟩) m.length c)
    (hx : ∀ j (hj : j < m.length), w.cell? ⟨b, j, none⟩ = some (.int .u64 ((m[j] : Nat) : Int))) (hg : WB w g C) (hfit : m.length ≤ C.length)
    (h : ∀ w', Kept w w' (fun k => k = g) → WB w' g (m ++ C.drop m.length) → wpList P ops Q rest (a.put o.dst (goInt m.length)) w') : wpList P ops Q (o :: rest) a w := by
  refine wpList_plain hgd fun K hK => ?_
  have hlen : (ints .u64 m).length = m.length := ints_length _ _
  have hmin : Nat.min m.length m.length = m.length := Nat.min_self _
  have hrun := run_copy_row (P := P) w dT sT o.type 102 g 0 m.length dCap ⟨b, 0, none⟩ m.length c (ints .u64 C).toArray 102 (ints .u64 m) hu hsz hg (by rw [hlen, hmin]) (fun j v hj => by
    have hj' : j < m.length := by
      have := (List.getElem?_eq_some_iff.1 hj).1
      rwa [hlen] at this
    rw [ints_get _ _ j hj'] at hj
    have hadd : (⟨b, 0, none⟩ : Addr).add j = ⟨b, j, none⟩ := by unfold Addr.add; split <;> simp_all
    rw [hadd, hx j hj', ← hj]) (by rw [hlen]; simp [ints]; omega) (ints_one _ _)
  rw [hlen] at hrun
  have h5 := h _ ((Kept.refl w (fun k => k = g)).setRow (g := g) (.inl rfl) ((ints .u64 C).toArray.toList.take 0 ++ ints .u64 m ++ (ints .u64 C).toArray.toList.drop (0 + m.length)).toArray) (by
    unfold WB
    rw [setRow_heap w g _ _ 102 _ hg]
    simp [ints, List.map_drop])
  unfold Oper.wp
  simp only [execOp, ho, resolve, invoke, builtin, hd, hs, hrun, Result.andThen, Sem.run_bind, Sem.run_pure, List.map_toArray, List.map_cons, List.map_nil, Oper.upon]
  exact hK _ _ h5
end
theorem size102 : (Tryz.prog.info? 102).map (·.size) = some 1 := by kernel_rfl

theorem wpList_copyNone {P : Program} {ops : Array Oper} {rest : List Oper} {o : Oper} {a : Act} {w : World} {Q : Exit → Act → World → Prop} (hgd : o.guard = none) (d s : Operand) (dT sT : TypeId)
    (ho : o.op = .call { callee := .builtin .copy, args := #[d, s], argTypes := #[dT, sT] }) (hu : P.underlying dT = some (.slice 102)) (hsz : (P.info? 102).map (·.size) = some 1)
    (A B : Option Addr) (dc sc : Nat) (hd : a.eval d = .slice A 0 dc) (hs : a.eval s = .slice B 0 sc)
    (h : wpList P ops Q rest (a.put o.dst (goInt 0)) w) : wpList P ops Q (o :: rest) a w := by
  refine wpList_plain hgd fun K hK => ?_
  have hrun := run_copy_none (P := P) w dT sT o.type 102 A B 0 dc 0 sc hu hsz rfl
  unfold Oper.wp
  simp [execOp, ho, resolve, invoke, builtin, hd, hs, hrun, Result.andThen]
  exact hK _ _ h

set_option maxRecDepth 100000 in
set_option maxHeartbeats 1000000 in
theorem natSet_any (lo : Nat) (v : Value) (L : List Nat) (w : World) (hz : Nt w lo v L) (h3 : L.length ≤ 3) (hlo : lo ≤ w.heap.size) :
    Calls Tryz.prog 61 #[.slice none 0 0, v] w fun e w' => ∃ v', e = .returned v' ∧ Nt w' lo v' L ∧ Fresh w w' ∧ ∀ k, v'.ownBlock = some k → w.heap.size ≤ k := by
  rcases hz.1 with ⟨rfl, rfl⟩ | ⟨g, C, n, rfl, hg, hW, hn, hLC⟩
  · have H := Go.Lib.hid (make_old none 0 0 0 (Nat.le_refl _) (by omega) w)
    clear hz
    go_enter Tryz.func61, Tryz.ntmps61
    go_wp2_with (fail)
    refine H.out.mono ?_
    rintro e w1 ⟨rfl, hw⟩
    replace hw := hw.symm
    subst hw
    go_wp2_with (refine wpList_copyNone rfl (.tmp 9) (.tmp 10) 59 59 rfl Tryz.underlying59 size102 none none 0 0 rfl rfl ?_)
    go_ret
    exact ⟨_, rfl, Nt.nil _ _, Kept.refl _ _, fun k hk => by cases hk⟩
  · have hLn : L.length = n := by rw [hLC, List.length_take]; omega
    by_cases hn0 : n = 0
    · subst hn0
      have hL : L = [] := List.eq_nil_of_length_eq_zero hLn
      subst hL
      have H := Go.Lib.hid (make_old none 0 0 0 (Nat.le_refl _) (by omega) w)
      clear hz hLC hLn
      generalize C.length = cl at *
      go_enter Tryz.func61, Tryz.ntmps61
      go_wp2_with (fail)
      refine H.out.mono ?_
      rintro e w1 ⟨rfl, hw⟩
      replace hw := hw.symm
      subst hw
      go_wp2_with (refine wpList_copyNone rfl (.tmp 9) (.tmp 10) 59 59 rfl Tryz.underlying59 size102 none (some ⟨g, 0, none⟩) 0 cl rfl rfl ?_)
      go_ret
      exact ⟨_, rfl, Nt.nil _ _, Kept.refl _ _, fun k hk => by cases hk⟩
    · have H := Go.Lib.hid (make_new none 0 0 n (by omega) (by omega) w)
      have hcx : ∀ W, Fresh w W → ∀ j (hj : j < L.length), W.cell? ⟨g, j, none⟩ = some (.int .u64 ((L[j] : Nat) : Int)) := by
        intro W hF j hj
        have h1 := (hW.fresh hF).cellAt j (by omega)
        have e : L[j] = C[j]'(by omega) := by simp only [hLC, List.getElem_take]
        rw [e]
        exact h1
      have HCX := Go.Lib.hid hcx
      have HLD := Go.Lib.hid hz.2
      have HLn := Go.Lib.hid hLn
      clear hz hLC hcx hLn
      generalize C.length = cl at *
      go_enter Tryz.func61, Tryz.ntmps61
      go_wp2_with (fail)
      refine H.out.mono ?_
      rintro e w1 ⟨z, rfl, hW1, hF1⟩
      have HF1 := Go.Lib.hid (And.intro hW1 hF1)
      clear hW1 hF1
      go_wp2_with (refine wpList_copyW rfl (.tmp 9) (.tmp 10) 59 59 rfl Tryz.underlying59 size102 w.heap.size (n + z) g cl L (List.replicate (n + z) 0) (by rw [HLn.out]; rfl) (by rw [HLn.out]; rfl) (HCX.out w1 HF1.out.2) HF1.out.1 (by rw [HLn.out]; simp) ?_; intro w2 hk2 hW2)
      go_ret
      refine ⟨_, rfl, ⟨.inr ⟨w.heap.size, L ++ (List.replicate (n + z) 0).drop L.length, n, by simp [HLn.out], hlo, hW2, by simp [HLn.out], by rw [← HLn.out, List.take_left]⟩, HLD.out⟩, HF1.out.2.trans hk2 (fun k hk e => by omega), fun k hk => ?_⟩
      have : w.heap.size = k := Option.some.inj hk
      omega
end Go.Proofs.YthmopakaikhjlaaGreatDoor
