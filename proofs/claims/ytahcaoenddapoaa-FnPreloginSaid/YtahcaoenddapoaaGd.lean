/- Options that are compared, as tokens and data. -/
import Derived.Test.YtahcaoenddapoaaOpn
import Derived.Test.YtahcaoenddapoaaFmp
namespace Go.Proofs.Ytahcaoenddapoaa
open Go.RowKit

def toks (X : List (Int × Value × List Nat)) : List Nat := X.map fun x => x.1.toNat
def datOf (X : List (Int × Value × List Nat)) (k : Nat) : List Nat := ((X.map fun x => (x.1.toNat, x.2.2)).lookup k).getD []

theorem toks_length (X : List (Int × Value × List Nat)) : (toks X).length = X.length := by simp [toks]

section
variable {X : List (Int × Value × List Nat)} (hX : ∀ i h, Fit X i h)
include hX
theorem fit_up : ∀ (d i : Nat) (h : i + d + 1 < X.length), (X[i]'(by omega)).1 < X[i + d + 1].1 := by
  intro d
  induction d with
  | zero =>
    intro i h
    have h1 := (hX (i + 1) (by omega)).up (by omega)
    simpa using h1
  | succ d ih =>
    intro i h
    have h1 := ih i (by omega)
    have h2 := (hX (i + d + 1 + 1) (by omega)).up (by omega)
    have e : i + (d + 1) + 1 = i + d + 1 + 1 := by omega
    simp only [e]
    have h3 : (X[i + d + 1 + 1 - 1]'(by omega)).1 = (X[i + d + 1]'(by omega)).1 := by congr 1
    rw [h3] at h2
    omega

theorem fit_toNat (i : Nat) (h : i < X.length) : ((X[i].1.toNat : Nat) : Int) = X[i].1 := by
  have := (hX i h).lo
  omega

theorem toks_up : (toks X).Pairwise (· < ·) := by
  refine List.pairwise_iff_getElem.2 fun a b ha hb hab => ?_
  have ha' : a < X.length := by rw [toks_length] at ha; exact ha
  have hb' : b < X.length := by rw [toks_length] at hb; exact hb
  have h1 := fit_up hX (b - a - 1) a (by omega)
  have e : a + (b - a - 1) + 1 = b := by omega
  simp only [e] at h1
  have h2 := (hX a ha').lo
  have h3 := (hX b hb').lo
  simp only [toks, List.getElem_map]
  omega

theorem datOf_at (i : Nat) (h : i < X.length) : datOf X (X[i].1.toNat) = X[i].2.2 := by
  have hnd : (toks X).Nodup := (toks_up hX).imp (fun h => Nat.ne_of_lt h)
  clear hX
  unfold datOf
  have key : ∀ (Y : List (Int × Value × List Nat)), (toks Y).Nodup → ∀ i (h : i < Y.length), (Y.map fun x => (x.1.toNat, x.2.2)).lookup (Y[i].1.toNat) = some Y[i].2.2 := by
    intro Y
    induction Y with
    | nil => intro _ i h; simp at h
    | cons y Y ih =>
      intro hn i h
      simp only [toks, List.map_cons, List.nodup_cons] at hn
      cases i with
      | zero => simp
      | succ i =>
        have hi : i < Y.length := by simpa using h
        have hne : ¬ Y[i].1.toNat = y.1.toNat := fun e => hn.1 (by rw [← e]; exact List.mem_map.2 ⟨Y[i], List.getElem_mem hi, rfl⟩)
        have hb : (Y[i].1.toNat == y.1.toNat) = false := by simpa using hne
        simp only [List.map_cons, List.getElem_cons_succ, List.lookup_cons, hb]
        exact ih hn.2 i hi
  rw [key X hnd i h]
  rfl

theorem good_fine (h10 : X.length ≤ 10) : Fine (datOf X) (toks X) := by
  have hm : ∀ k ∈ toks X, ∃ i, ∃ h : i < X.length, k = X[i].1.toNat := by
    intro k hk
    obtain ⟨x, hx, rfl⟩ := List.mem_map.1 hk
    obtain ⟨i, h, rfl⟩ := List.getElem_of_mem hx
    exact ⟨i, h, rfl⟩
  refine ⟨toks_up hX, fun k hk => ?_, fun k hk => ?_, fun k hk => ?_, fun k hk => ?_, by rw [toks_length]; exact h10⟩
  all_goals
    obtain ⟨i, h, rfl⟩ := hm k hk
    have f := hX i h
    have f1 := f.lo
    have f2 := f.hi
    have f3 := f.ne
    have f4 := f.l0
    have f5 := f.l1
  · omega
  · omega
  · rw [datOf_at hX i h]; exact f4
  · rw [datOf_at hX i h]; exact f5

theorem opts_of_inp {w : World} {b o : Nat} (hI : Inp w b o X) : Opts w b o (toks X) (datOf X) := by
  intro i h
  have h' : i < X.length := by rw [toks_length] at h; exact h
  obtain ⟨h1, h2, h3, _⟩ := hI i h'
  have e : (toks X)[i] = X[i].1.toNat := by simp [toks]
  rw [e, fit_toNat hX i h', datOf_at hX i h']
  exact ⟨h1, _, h2, h3.2 (by have := (hX i h').l0; omega)⟩

theorem opts_of_row {base : Nat} {w : World} {g c n : Nat} (hR : RowO 104 base w (.slice (some ⟨g, 0, none⟩) n c) (X.map asOpt)) (hn : X.length = n) (hB : ∀ i (h : i < X.length), Bts w X[i].2.1 X[i].2.2) : Opts w g 0 (toks X) (datOf X) := by
  intro i h
  have h' : i < X.length := by rw [toks_length] at h; exact h
  have e : (toks X)[i] = X[i].1.toNat := by simp [toks]
  have c0 := hR.cell0 (by simpa using hn) i (by simpa using h')
  have c1 := hR.cell1 (by simpa using hn) i (by simpa using h')
  simp only [List.getElem_map, asOpt] at c0 c1
  rw [e, datOf_at hX i h', Nat.zero_add]
  exact ⟨c0, _, c1, hB i h'⟩
end
end Go.Proofs.Ytahcaoenddapoaa
