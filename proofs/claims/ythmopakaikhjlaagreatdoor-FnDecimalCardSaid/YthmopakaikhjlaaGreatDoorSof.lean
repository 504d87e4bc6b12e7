/- Texts as lists of bytes; spec.digits. -/
import Derived.Test.YthmopakaikhjlaaGreatDoorZed
namespace Go.Proofs.YthmopakaikhjlaaGreatDoor
open Go.RowKit

theorem strOf_size (l : List Nat) : (strOf l).size = l.length := by simp [strOf, bytesOf, ByteArray.size]
theorem strOf_get (l : List Nat) (j : Nat) (h : j < (strOf l).size) (h' : j < l.length) : (strOf l)[j].toNat = l[j] % 256 := by
  show ((bytesOf l).toArray[j]'_).toNat = _
  simp [bytesOf]
theorem strOf_append (a b : List Nat) : strOf (a ++ b) = strOf a ++ strOf b := by
  apply ByteArray.ext
  simp [strOf, bytesOf, ByteArray.data_append]
theorem strOf_extract (l : List Nat) (i j : Nat) : (strOf l).extract i j = strOf ((l.take j).drop i) := by
  apply ByteArray.ext
  rw [ByteArray.data_extract]
  apply Array.toList_inj.1
  rw [Array.toList_extract]
  simp only [strOf, bytesOf, List.map_drop, List.map_take, List.extract_eq_take_drop]
  rw [List.drop_take]
/-- A text's bytes. -/
def natsOf (s : ByteArray) : List Nat := s.data.toList.map UInt8.toNat
theorem natsOf_lt (s : ByteArray) : ∀ b ∈ natsOf s, b < 256 := by
  intro b hb
  obtain ⟨u, _, rfl⟩ := List.mem_map.1 hb
  exact UInt8.toNat_lt u
theorem strOf_natsOf (s : ByteArray) : strOf (natsOf s) = s := by
  apply ByteArray.ext
  simp [strOf, bytesOf, natsOf, Function.comp_def]
theorem natsOf_length (s : ByteArray) : (natsOf s).length = s.size := by unfold natsOf; rw [List.length_map]; rfl
theorem natsOf_get (s : ByteArray) (j : Nat) (h : j < (natsOf s).length) (h' : j < s.size) : (natsOf s)[j] = s[j].toNat := by
  simp only [natsOf, List.getElem_map, Array.getElem_toList]
  rfl

/-- The text of digits. -/
@[reducible] def dtx (ds : List Nat) : List Nat := ds.map (· + 48)
/-- The text s: perhaps a sign, and at most p digits; no nought ahead of others, no signed nought. -/
structure Prop10 (s : ByteArray) (p : Nat) (neg : Bool) (ds : List Nat) : Prop where
  eq : s = strOf ((if neg then [45] else []) ++ dtx ds)
  ne : ds ≠ []
  le : ∀ d ∈ ds, d ≤ 9
  few : ds.length ≤ p
  lead : ds = [0] ∨ ds.head? ≠ some 0
  negz : neg = true → ds ≠ [0]

theorem ok_digits (s u : ByteArray) (p : Nat) (neg : Bool) (hs : s = strOf (if neg then [45] else []) ++ u) (hd : ∀ j (h : j < u.size), 48 ≤ u[j].toNat ∧ u[j].toNat ≤ 57) (hn : 0 < u.size) (hp : u.size ≤ p) (hl : u[0].toNat ≠ 48 ∨ (u.toList == [48]) = true)
    (hz : neg = true → (u.toList == [48]) = false) : ∃ ds, Prop10 s p neg ds := by
  have hb : ∀ b ∈ natsOf u, 48 ≤ b ∧ b ≤ 57 := by
    intro b hb
    obtain ⟨j, hj, rfl⟩ := List.getElem_of_mem hb
    have hj' : j < u.size := by rw [← natsOf_length]; exact hj
    rw [natsOf_get u j hj hj']
    exact hd j hj'
  have hu : dtx ((natsOf u).map (· - 48)) = natsOf u := by
    unfold dtx
    rw [List.map_map]
    conv => rhs; rw [← List.map_id (natsOf u)]
    refine List.map_congr_left fun b hb' => ?_
    have := hb b hb'
    show b - 48 + 48 = b
    omega
  have h0 : ((u.toList == [48]) = true) ↔ (natsOf u).map (· - 48) = [0] := by
    rw [ByteArray.toList_eq, beq_iff_eq]
    unfold natsOf
    constructor
    · intro h; rw [h]; rfl
    · intro h
      have hlen := congrArg List.length h
      simp at hlen
      have hsz : u.size = 1 := hlen
      have h1 := hd 0 (by omega)
      have hu0 := natsOf_get u 0 (by rw [natsOf_length]; omega) (by omega)
      have e0 : (natsOf u)[0]'(by rw [natsOf_length]; omega) - 48 = 0 := by
        have h3 : ((natsOf u).map (· - 48))[0]'(by rw [List.length_map, natsOf_length]; omega) = 0 := by
          simp only [natsOf, h]
          rfl
        simpa using h3
      rw [hu0] at e0
      have e1 : u[0].toNat = 48 := by omega
      obtain ⟨a, ha⟩ := List.length_eq_one_iff.1 hlen
      have ha2 : a.toNat = 48 := by
        have h4 : (natsOf u)[0]'(by rw [natsOf_length]; omega) = a.toNat := by simp only [natsOf, ha]; rfl
        rw [hu0] at h4
        omega
      have h5 : a = 48 := UInt8.toNat_inj.1 ha2
      rw [ha, h5]
  refine ⟨(natsOf u).map (· - 48), ?_, ?_, ?_, ?_, ?_, ?_⟩
  · rw [hu, strOf_append, strOf_natsOf]; exact hs
  · intro h
    have h1 := congrArg List.length h
    rw [List.length_map, natsOf_length] at h1
    have h2 : u.size = 0 := h1
    omega
  · intro d hd'
    obtain ⟨b, hb', rfl⟩ := List.mem_map.1 hd'
    have := hb b hb'
    omega
  · rw [List.length_map, natsOf_length]; exact hp
  · rcases hl with h | h
    · right
      intro hh
      have hlt : 0 < ((natsOf u).map (· - 48)).length := by rw [List.length_map, natsOf_length]; exact hn
      rw [List.head?_eq_getElem?, List.getElem?_eq_getElem hlt] at hh
      have h1 := Option.some.inj hh
      rw [List.getElem_map, natsOf_get u 0 _ hn] at h1
      obtain ⟨a1, a2⟩ := hd 0 hn
      omega
    · exact .inl (h0.1 h)
  · intro hneg hh
    have h1 := h0.2 hh
    rw [hz hneg] at h1
    cases h1
end Go.Proofs.YthmopakaikhjlaaGreatDoor
