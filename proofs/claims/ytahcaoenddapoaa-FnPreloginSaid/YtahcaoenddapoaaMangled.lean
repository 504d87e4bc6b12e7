/- The walk of spec.Mangled: the bytes of a password, turned. -/
import Derived.Test.YtahcaoenddapoaaUcs
namespace Go.Proofs.Ytahcaoenddapoaa
open Go.RowKit

theorem mangle_eq (b : Nat) (hb : b < 256) : bits .xor .u8 (bits .or .u8 ((b : Int) * 16 % 256) ((b : Int) / 16)) 165 = ((mangle b : Nat) : Int) := by
  have h : ∀ x : Fin 256, bits .xor .u8 (bits .or .u8 ((x.val : Int) * 16 % 256) ((x.val : Int) / 16)) 165 = ((mangle x.val : Nat) : Int) := by decide +kernel
  exact h ⟨b, hb⟩

theorem set_mid {l : List Nat} {k : Nat} (f : Nat → Nat) (hk : k < l.length) : ((l.take k).map f ++ l.drop k).set k (f l[k]) = (l.take (k + 1)).map f ++ l.drop (k + 1) := by
  apply List.ext_getElem?
  intro i
  by_cases h1 : i = k
  · subst h1
    rw [List.getElem?_set_self (by simp; omega), List.getElem?_append_left (by simp; omega)]
    simp [hk]
  · rw [List.getElem?_set_ne (by omega)]
    by_cases h2 : i < k
    · rw [List.getElem?_append_left (by simp; omega), List.getElem?_append_left (by simp; omega)]
      simp [h2, show i < k + 1 by omega]
    · rw [List.getElem?_append_right (by simp; omega), List.getElem?_append_right (by simp; omega)]
      simp only [List.length_map, List.length_take, List.getElem?_drop]
      congr 1
      omega

theorem ucs_few (s : ByteArray) : (ucs (runesOf s)).length ≤ 4 * s.size := by
  have h1 := units_length (runesOf s)
  have h2 := runes_length s s.size 0
  rw [ucs_length]
  unfold runesOf at *
  omega

set_option maxRecDepth 100000 in
theorem mangled_any (s : ByteArray) (hs : s.size ≤ 4294967296) (w : World) :
    Calls Try.prog 12 #[.string s] w fun e w' => ∃ v, e = .returned v ∧ Row w.heap.size w' v ((ucs (runesOf s)).map mangle) ∧ Fresh w w' := by
  have hl4 := ucs_few s
  have hlt := ucs_lt (runesOf s)
  go_enter Try.func12, Try.ntmps12
  go_wp2_with (fail)
  refine (ucs2_any s hs _).mono ?_
  rintro e w1 ⟨v, rfl, hr, hF⟩
  generalize hL : ucs (runesOf s) = l at *
  have HL := Go.Lib.hid hL
  clear hL
  obtain ⟨A, c, rfl⟩ := hr.slice
  have HLT := Go.Lib.hid hlt
  clear hlt
  go_wp2
  go_loopw [10] (fun i wr => ∃ k : Nat, k ≤ l.length ∧ i = .int .i64 k ∧ Row w.heap.size wr (.slice A l.length c) ((l.take k).map mangle ++ l.drop k) ∧ Fresh w wr) (fun i _ => l.length - (intOf i).toNat)
  case atStart => exact ⟨0, by omega, rfl, by simpa using hr, hF⟩
  case round =>
    obtain ⟨k, hk, rfl, hrk, hFk⟩ := hrel
    by_cases hlt : k < l.length
    · have hlen : ((l.take k).map mangle ++ l.drop k).length = l.length := by simp; omega
      obtain ⟨g, rfl, hbg, hgs⟩ := hrk.form (by omega)
      have hc := hrk.cellAt k (by omega)
      have hf := hrk.frozenAt k
      have e1 : ((l.take k).map mangle ++ l.drop k)[k]'(by omega) = l[k] := by
        rw [List.getElem_append_right (by simp; omega)]
        simp [Nat.min_eq_left hk]
      rw [e1] at hc
      have HS := Go.Lib.hid (set_mid mangle hlt)
      have HE := Go.Lib.hid (mangle_eq l[k] (HLT.out _ (List.getElem_mem hlt)))
      clear e1 hlen
      go_wp2
      go_roundw
      case rel =>
        rw [HE.out]
        exact ⟨k + 1, by omega, by go_num, HS.out ▸ hrk.stored k _, hFk.setCell (.inr hbg) _⟩
      case measure => simp [intOf]; omega
    · obtain rfl : k = l.length := by omega
      go_wp2
      go_ret
      refine ⟨_, rfl, ?_, hFk⟩
      rw [HL.out]
      simpa using hrk
end Go.Proofs.Ytahcaoenddapoaa
