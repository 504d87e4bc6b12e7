/- Two ways: either of two operations comes up. What is there stays there. -/
import Derived.Test.YthmopakaikhjlaaGreatDoorStp
import Derived.Deep.MidRow
namespace Go.Proofs.YthmopakaikhjlaaGreatDoor
open Go.RowKit

section
variable {P : Program} {ops : Array Oper} {Q : Exit → Act → World → Prop} {md : Region.Mode} {S : World → Prop}
theorem reg_two {i j : Nat} {oi oj : Oper} {fuel : Nat} {listed li lj : Array Bool} {a : Act} {w : World} {ops0 : Array Oper} (hO : Go.RowKit.Hid (ops = ops0)) (hi : ops0[i]? = some oi) (hj : ops0[j]? = some oj)
    (hr : Region.ready md ops0 listed = [i, j]) (hli : listed.setIfInBounds i true = li) (hlj : listed.setIfInBounds j true = lj) (hwi : Region.wanted oi (yielded ops0 a.tmps) = true) (hwj : Region.wanted oj (yielded ops0 a.tmps) = true)
    (h1 : ∀ K' : Act → World → Prop, Shut (∀ a w, S w → (S w → wpAnyH P md ops Q S fuel li a w) → K' a w) → Oper.wp P oi a w K' Q)
    (h2 : ∀ K' : Act → World → Prop, Shut (∀ a w, S w → (S w → wpAnyH P md ops Q S fuel lj a w) → K' a w) → Oper.wp P oj a w K' Q) : wpAnyH P md ops Q S (fuel + 1) listed a w := by
  have hO := hO.out
  subst hO
  subst hli
  subst hlj
  refine wpAnyH_ready hr (by simp) (AllReadyH.cons hi (fun K hK => ?_) (AllReadyH.cons hj (fun K hK => ?_) AllReadyH.nil))
  · rw [if_pos hwi]
    exact h1 K hK
  · rw [if_pos hwj]
    exact h2 K hK
end

theorem Kept.there {w w' : World} {S : Nat → Prop} (h : Kept w w' S) {b o n : Nat} (hn : 0 < n) (ht : w.there b o n) (hS : ¬ S b) : w'.there b o n := fun j hj => by
  have hb : b < w.heap.size := by
    obtain ⟨u, hu⟩ := Option.isSome_iff_exists.1 (ht 0 hn).1
    exact World.block_lt_of_cell? w _ hu
  exact ⟨by rw [h.cell (p := ⟨b, o + j, none⟩) hb hS]; exact (ht j hj).1, by rw [h.frozen (p := ⟨b, o + j, none⟩) hb hS]; exact (ht j hj).2⟩

theorem there_new (w : World) (cs : Array Value) (T : TypeId) : (w.alloc (.cells cs T)).there w.heap.size 0 cs.size := fun j hj => by
  have hg : (w.alloc (.cells cs T)).heap[w.heap.size]? = some (.cells cs T) := heap_alloc_new _ _
  refine ⟨?_, ?_⟩
  · have := cell_of_row (w.alloc (.cells cs T)) w.heap.size (0 + j) cs T (0, 0) hg
    rw [this]
    simp [hj]
  · simp only [World.frozen?, hg]
    simp

theorem setCells_kept (b : Nat) : ∀ (vs : List Value) (o : Nat) (w : World), Kept w (w.setCells b o vs) (fun k => k = b)
  | [], _, w => Kept.refl w _
  | v :: vs, o, w => ((Kept.refl w (fun k => k = b)).setCell (p := ⟨b, o, none⟩) (.inl rfl) v).trans (setCells_kept b vs (o + 1) _) (fun _ _ h => h)
end Go.Proofs.YthmopakaikhjlaaGreatDoor
