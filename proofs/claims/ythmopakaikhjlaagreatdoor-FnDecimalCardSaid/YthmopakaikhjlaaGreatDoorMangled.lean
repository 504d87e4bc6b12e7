/- The walk of spec.Mangled: the bytes of a password, turned. -/
import Derived.Test.YthmopakaikhjlaaGreatDoorUcs
namespace Go.Proofs.YthmopakaikhjlaaGreatDoor
open Go.RowKit

theorem mangle_eq (b : Nat) (hb : b < 256) : bits .xor .u8 (bits .or .u8 ((b : Int) * 16 % 256) ((b : Int) / 16)) 165 = ((mangle b : Nat) : Int) := by
  have h : ∀ x : Fin 256, bits .xor .u8 (bits .or .u8 ((x.val : Int) * 16 % 256) ((x.val : Int) / 16)) 165 = ((mangle x.val : Nat) : Int) := by decide +kernel
  exact h ⟨b, hb⟩

theorem set_mid {l : List Nat} {k : Nat} (f : Nat → Nat) (hk : k < l.length) : ((l.take k).map f ++ l.drop k).set k (f l[k]) = (l.take (k + 1)).map f ++ l.drop (k + 1) := by
  apply List.ext_getElem?
  intro i
  by_cases h1 : i = k
  · subst h1
    rw [List.getElem?_set_self (by simp; omega), List.getElem?_append_left (by simp; omega)]
    simp [hk]
  · rw [List.getElem?_set_ne (by omega)]
    by_cases h2 : i < k
    · rw [List.getElem?_append_left (by simp; omega), List.getElem?_append_left (by simp; omega)]
      simp [h2, show i < k + 1 by omega]
    · rw [List.getElem?_append_right (by simp; omega), List.getElem?_append_right (by simp; omega)]
      simp only [List.length_map, List.length_take, List.getElem?_drop]
      congr 1
      omega

theorem ucs_few (s : ByteArray) : (ucs (runesOf s)).length ≤ 4 * s.size := by
  have h1 := units_length (runesOf s)
  have h2 := runes_length s s.size 0
  rw [ucs_length]
  unfold runesOf at *
  omega

end Go.Proofs.YthmopakaikhjlaaGreatDoor
