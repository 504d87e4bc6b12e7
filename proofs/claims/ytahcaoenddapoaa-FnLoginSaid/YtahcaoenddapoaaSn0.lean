/- Plain facts for sendLogin: the lengths of a proper login's texts. -/
import Derived.Test.YtahcaoenddapoaaRg2
namespace Go.Proofs.Ytahcaoenddapoaa
open Go.RowKit

theorem units_one : ∀ (l : List Nat), (∀ r ∈ l, r ≤ 65535) → (units l).length = l.length
  | [], _ => rfl
  | r :: l, h => by
    have h1 := h r (List.mem_cons_self ..)
    have h2 := units_one l (fun s hs => h s (List.mem_cons_of_mem _ hs))
    have e : units (r :: l) = u16 r ++ units l := rfl
    rw [e, List.length_append, h2]
    unfold u16
    rw [if_pos (by omega)]
    simp
    omega

theorem fine_len {s : ByteArray} {m : Nat} (h : fineText s) (hm : Cnt s m) : (ucs (runesOf s)).length = 2 * m := by
  rw [ucs_length, units_one _ h.2, hm.1]

theorem one_len {x : Lg} {s : ByteArray} {m n : Nat} (hx : x.proper) (hm : Cnt s m) (hs : s ∈ x.texts) (hn : (ucs (runesOf s)).length = n) : (n : Int) ≤ 120 := by
  have h1 := fine_len (hx.1 s hs) hm
  have := hm.2.2
  omega
end Go.Proofs.Ytahcaoenddapoaa
