/- Stepping through a region by hand: the lemmas, with the region's operations and what follows as variables. -/
import Derived.Test.YthmopakaikhjlaaGreatDoorMem
import Derived.Below
import Derived.Lib.Hide
import Derived.OrdersHeld
import Derived.Deep.RegionHeld
namespace Go.Proofs.YthmopakaikhjlaaGreatDoor
open Go.RowKit

theorem reg_strong {P : Program} {md : Region.Mode} {ops : Array Oper} {Q : Exit → Act → World → Prop} {S S' : World → Prop} (h : ∀ w, S' w → S w) : ∀ (fuel : Nat) (listed : Array Bool) (a : Act) (w : World), wpAnyH P md ops Q S' fuel listed a w → wpAnyH P md ops Q S fuel listed a w
  | 0, _, _, _, hw => hw
  | n + 1, _, _, _, hw => ⟨hw.1, fun i hi => wpOp_mono (fun a' w' h' => ⟨h _ h'.1, reg_strong h n _ a' w' h'.2⟩) (hw.2 i hi)⟩

section
variable {P : Program} {ops : Array Oper} {Q : Exit → Act → World → Prop} {md : Region.Mode} {S : World → Prop}

/-- The region's operations and what follows it as variables. -/
theorem reg_open {id : Nat} {a : Act} {w : World} (n : Nat) (listed : Array Bool) (hm : P.follows .mixedOrders = true) (hn : ops.size = n) (hl : Array.replicate ops.size false = listed)
    (hQ : ∀ c (a : Act) (d : Option Nat) v w, Q (.panic c) (a.put d v) w → Q (.panic c) a w) (hs : Region.noSelect ops = true)
    (h : ∀ (OPS : Array Oper) (QQ : Exit → Act → World → Prop), Go.RowKit.Hid (OPS = ops) → Go.RowKit.Hid (QQ = Q) → (∀ c (a : Act) (d : Option Nat) v w, QQ (.panic c) (a.put d v) w → QQ (.panic c) a w) → Region.noSelect OPS = true → wpAnyH P .any OPS QQ S n listed a w.drew) : (Code.region id ops true).wp P Q a w := by
  refine wp_region_held hm (S := S) ?_
  rw [hl, hn]
  exact h ops Q (Go.Lib.hid rfl) (Go.Lib.hid rfl) hQ hs

theorem reg_take {i : Nat} {oi : Oper} {v : Value} {fuel : Nat} {listed listed' : Array Bool} {a : Act} {w : World} {ops0 : Array Oper} (hO : Go.RowKit.Hid (ops = ops0)) (hi : ops0[i]? = some oi)
    (hs : Region.noSelect ops = true) (hf : Region.free md ops0 listed i = true) (hr : (Region.ready md ops0 listed).contains i = true)
    (hQ : ∀ c (a : Act) (d : Option Nat) v w, Q (.panic c) (a.put d v) w → Q (.panic c) a w) (hl : listed.setIfInBounds i true = listed')
    (hw : Region.wanted oi (yielded ops0 a.tmps) = true) (hy : ∀ w, S w → (execOp a.eval oi).run P w = .ok (.value v) w) (hS : S w)
    (h : wpAnyH P md ops Q S fuel listed' (a.put oi.dst v) w) : wpAnyH P md ops Q S (fuel + 1) listed a w := by
  have hO := hO.out
  subst hO
  subst hl
  exact wpAnyH_take hi hs hf hr (fun c a w h => hQ c _ _ _ w h) (Or.inl ⟨hw, hy⟩) hS h

theorem reg_skip {i : Nat} {oi : Oper} {fuel : Nat} {listed listed' : Array Bool} {a : Act} {w : World} {ops0 : Array Oper} (hO : Go.RowKit.Hid (ops = ops0)) (hi : ops0[i]? = some oi)
    (hs : Region.noSelect ops = true) (hf : Region.free md ops0 listed i = true) (hr : (Region.ready md ops0 listed).contains i = true)
    (hQ : ∀ c (a : Act) (d : Option Nat) v w, Q (.panic c) (a.put d v) w → Q (.panic c) a w) (hl : listed.setIfInBounds i true = listed')
    (hw : Region.wanted oi (yielded ops0 a.tmps) = false) (hS : S w)
    (h : wpAnyH P md ops Q S fuel listed' (a.put oi.dst undef) w) : wpAnyH P md ops Q S (fuel + 1) listed a w := by
  have hO := hO.out
  subst hO
  subst hl
  exact wpAnyH_take hi hs hf hr (fun c a w h => hQ c _ _ _ w h) (Or.inr ⟨hw, rfl⟩) hS h

theorem reg_one {i : Nat} {o : Oper} {fuel : Nat} {listed listed' : Array Bool} {a : Act} {w : World} {ops0 : Array Oper} (hO : Go.RowKit.Hid (ops = ops0)) (hi : ops0[i]? = some o)
    (hr : Region.ready md ops0 listed = [i]) (hl : listed.setIfInBounds i true = listed') (hw : Region.wanted o (yielded ops0 a.tmps) = true)
    (h : ∀ K' : Act → World → Prop, Shut (∀ a w, S w → (S w → wpAnyH P md ops Q S fuel listed' a w) → K' a w) → Oper.wp P o a w K' Q) : wpAnyH P md ops Q S (fuel + 1) listed a w := by
  have hO := hO.out
  subst hO
  subst hl
  refine wpAnyH_ready hr (by simp) (AllReadyH.cons hi (fun K hK => ?_) AllReadyH.nil)
  rw [if_pos hw]
  exact h K hK

theorem reg_done {fuel : Nat} {listed : Array Bool} {a : Act} {w : World} {ops0 : Array Oper} {Q0 : Exit → Act → World → Prop} (hO : Go.RowKit.Hid (ops = ops0)) (hQ : Go.RowKit.Hid (Q = Q0)) (hr : Region.ready md ops0 listed = []) (h : Q0 .normal a w) : wpAnyH P md ops Q S fuel listed a w := by
  have hO := hO.out
  have hQ := hQ.out
  subst hO
  subst hQ
  exact wpAnyH_done hr h _
end
end Go.Proofs.YthmopakaikhjlaaGreatDoor
