/- The reading half's helpers: (*Buffer).Read, readFull, beUint16. -/
import Derived.Test.YtahcaoenddapoaaNewBuf
import Derived.Deep.RegionHeld3
import Derived.Deep.QuietTactic
import Derived.BigQuiet
namespace Go.Proofs.Ytahcaoenddapoaa
open Go.RowKit

/-- The transport in block bb holds a slice that reads D; its array is none of the blocks in S. -/
def Src (w : World) (bb : Nat) (S : Nat → Prop) (D : List Nat) : Prop := ∃ A m c, w.cell? ⟨bb, 0, none⟩ = some (.slice A m c) ∧ w.frozen? ⟨bb, 0, none⟩ = false ∧ Bts w (.slice A m c) D ∧ ∀ k, (Value.slice A m c).ownBlock = some k → ¬ S k

theorem Src.kept {w w' : World} {bb : Nat} {S T : Nat → Prop} {D : List Nat} (h : Src w bb S D) (hk : Kept w w' T) (hT : ∀ k, T k → S k) (hb : ¬ T bb) : Src w' bb S D := by
  obtain ⟨A, m, c, h1, h2, h3, h4⟩ := h
  exact ⟨A, m, c, hk.held h1 hb, (hk.frozen (p := ⟨bb, 0, none⟩) (World.block_lt_of_cell? w _ h1) hb).trans h2, h3.kept hk (fun k hk' ht => h4 k hk' (hT k ht)), h4⟩

theorem ownBlock_add (A : Option Addr) (j n n' c c' k : Nat) (h : (Value.slice (A.map (·.add j)) n c).ownBlock = some k) : (Value.slice A n' c').ownBlock = some k := by
  cases A with
  | none => simp [Value.ownBlock] at h
  | some ad =>
    simp [Value.ownBlock, Addr.add] at h
    split at h <;> simpa [Value.ownBlock] using h

theorem drop_min (D : List Nat) (n cnt : Nat) (h : cnt = min D.length n) : D.drop cnt = D.drop n := by
  rcases Nat.le_total n D.length with h1 | h1
  · have : cnt = n := by omega
    rw [this]
  · rw [List.drop_eq_nil_of_le (by omega), List.drop_eq_nil_of_le h1]

theorem src_next {w W2 : World} {bb X : Nat} {S : Nat → Prop} (hSX : S X) (hSb : S bb) {A A2 : Option Addr} {m cc m2 c2 : Nat} {D' : List Nat} (h4 : ∀ k, (Value.slice A m cc).ownBlock = some k → ¬ S k)
    (K2 : Kept w W2 (fun k => k = X)) (hc2 : W2.cell? ⟨bb, 0, none⟩ = some (.slice A m cc)) (hf2 : W2.frozen? ⟨bb, 0, none⟩ = false) (h : Bts w (.slice A2 m2 c2) D') (ho : ∀ k, (Value.slice A2 m2 c2).ownBlock = some k → (Value.slice A m cc).ownBlock = some k) :
    Src (W2.setCell ⟨bb, 0, none⟩ (.slice A2 m2 c2)) bb S D' := by
  refine ⟨A2, m2, c2, World.cell?_setCell_same W2 _ _ hc2, by rw [World.frozen?_setCell]; exact hf2, ?_, fun k hk => h4 k (ho k hk)⟩
  exact (h.kept K2 (fun k hk e => h4 k (ho k hk) (e ▸ hSX))).kept ((Kept.refl W2 (fun k => k = bb)).setCell (p := ⟨bb, 0, none⟩) (.inl rfl) _) (fun k hk e => h4 k (ho k hk) (e ▸ hSb))

set_option maxRecDepth 100000 in
set_option maxHeartbeats 1000000 in
theorem bufRead_any (bb X o n c : Nat) (D L : List Nat) (S : Nat → Prop) (hSX : S X) (hSb : S bb) (w : World) (hs : Src w bb S D) (hD : D ≠ []) (hB : Blk w X L) (ho : o + n ≤ L.length) (hne : X ≠ bb) :
    Calls Try.prog 218 #[.pointer (some ⟨bb, 0, none⟩), .slice (some ⟨X, o, none⟩) n c] w fun e w' => e = .returned (.tuple #[.int .i64 ((min D.length n : Nat) : Int), .nilIface]) ∧ Src w' bb S (D.drop n) ∧ Blk w' X (splice L o (D.take n)) ∧ Kept w w' (fun k => k = X ∨ k = bb) := by
  obtain ⟨i0, hi, hz0, hz1, hz2⟩ := info_parts info5
  have hsz5 : (Try.prog.info? 5).map (·.size) = some 1 := by rw [hi]; simp [hz1]
  obtain ⟨A, m, cc, h1, h2, h3, h4⟩ := hs
  have hm := h3.len
  have hcc := h3.room
  have hm0 : 0 < D.length := List.length_pos_iff.2 hD
  obtain ⟨cnt, hcnt⟩ : ∃ cnt, cnt = min D.length n := ⟨_, rfl⟩
  rw [← hcnt]
  have hcn1 : cnt ≤ m := by omega
  have hcn2 : cnt ≤ n := by omega
  have hm1 : 0 < m := by omega
  have hcut := h3.cut cnt hcn1
  have HM := Go.Lib.hid hm
  have HC := Go.Lib.hid hcnt
  clear hm hcnt
  have m0 : ¬ m = 0 := by omega
  have i1 : ((cnt : Nat) : Int) ≤ (m : Int) := by omega
  go_enter Try.func218, Try.ntmps218
  go_wp2_with (refine wpList_copy rfl (.tmp 17) (.tmp 21) 24 24 rfl Try.underlying24 hsz5 X o n c (.slice A m cc) rfl rfl D h3 L hB ho cnt HC.out ?_; intro W2 K2 B2; have hc2 := K2.held h1 (fun e => hne e.symm); have hf2 := (K2.frozen (p := ⟨bb, 0, none⟩) (World.block_lt_of_cell? w _ h1) (fun e => hne e.symm)).trans h2)
  all_goals
    go_ret2
    have hB3 : ∀ u, Blk (W2.setCell ⟨bb, 0, none⟩ u) X (splice L o (D.take n)) := fun u => B2.kept ((Kept.refl W2 (fun k => k = bb)).setCell (p := ⟨bb, 0, none⟩) (.inl rfl) _) hne
    have hK3 : ∀ u, Kept w (W2.setCell ⟨bb, 0, none⟩ u) (fun k => k = X ∨ k = bb) := fun u => (K2.mono (fun _ _ e => .inl e)).setCell (p := ⟨bb, 0, none⟩) (.inl (.inr rfl)) _
    refine ⟨rfl, ?_, hB3 _, hK3 _⟩
    rw [← drop_min D n cnt HC.out]
    first
      | exact src_next hSX hSb h4 K2 hc2 hf2 (by have h5 := hcut; rw [if_pos ‹cc = cnt›, ‹cc = cnt›, Nat.sub_self] at h5; exact h5) (fun k hk => by cases A with | none => cases hk | some a => exact hk)
      | exact src_next hSX hSb h4 K2 hc2 hf2 (by simpa [*] using hcut) (fun k hk => ownBlock_add A cnt _ _ _ _ k hk)

theorem methRead (x : Value) (W : World) : (method 389 144 x "Read").run Try.prog W = .ok (218, x) W := by kernel_rfl
theorem aheadRead (a : Addr) (W : World) : (nilAhead 389 144 (.pointer (some a)) "Read").run Try.prog W = .ok (some false) W := by kernel_rfl
theorem enter218 (args : Array Value) (W : World) : (callFunc 218 args).run Try.prog W = .ok (.enter 218 args) W := run_enter Try.func218 (by kernel_rfl) (by kernel_rfl) args W

/-- Where readFull stands: nothing is read, or all. -/
def FullAt (w wr : World) (bb X o n : Nat) (D L : List Nat) (S : Nat → Prop) (j : Nat) : Prop :=
  j = 0 ∧ wr = w ∨ j = n ∧ Src wr bb S (D.drop n) ∧ Blk wr X (splice L o (D.take n)) ∧ Kept w wr (fun k => k = X ∨ k = bb)

set_option maxRecDepth 100000 in
set_option maxHeartbeats 1000000 in
theorem readFull_any (bb X o n c : Nat) (D L : List Nat) (S : Nat → Prop) (hSX : S X) (hSb : S bb) (w : World) (hs : Src w bb S D) (hn : 0 < n) (hD : n ≤ D.length) (hB : Blk w X L) (ho : o + n ≤ L.length) (hne : X ≠ bb) (hnc : n ≤ c) (hcm : c ≤ 100000) :
    Calls Try.prog 143 #[.iface 144 (.pointer (some ⟨bb, 0, none⟩)), .slice (some ⟨X, o, none⟩) n c] w fun e w' => e = .returned (.tuple #[.int .i64 (n : Int), .nilIface]) ∧ Src w' bb S (D.drop n) ∧ Blk w' X (splice L o (D.take n)) ∧ Kept w w' (fun k => k = X ∨ k = bb) := by
  have hmf : ∀ (fn : Fn) (first cap : Array Value) (w : World), (Instr.makeFunc fn first cap).run Try.prog w = .ok (.func fn first cap) w := fun _ _ _ _ => rfl
  have hme := methRead
  have hen := enter218
  go_enter Try.func143, Try.ntmps143
  go_wp2_with (fail)
  go_loopw [4, 5] (fun t er wr => ∃ j : Nat, t = .int .i64 (j : Int) ∧ er = .nilIface ∧ FullAt w wr bb X o n D L S j) (fun t _ _ => n - (intOf t).toNat)
  case atStart => exact ⟨0, rfl, rfl, .inl ⟨rfl, rfl⟩⟩
  case round =>
    obtain ⟨j, rfl, rfl, hj⟩ := hrel
    rcases hj with ⟨rfl, rfl⟩ | ⟨rfl, a1, a2, a3⟩
    · have hDn : D ≠ [] := fun e => by rw [e] at hD; simp at hD; omega
      have hmin : min D.length n = n := by omega
      have n0 : ¬ c = 0 := by omega
      have han := aheadRead
      go_wp2_with (fail)
      first
        | go_region_with (go_at_call 218; refine (bufRead_any bb X o n c D L S hSX hSb _ (hs.kept ((Kept.refl _ (fun _ => False)).drew) (fun _ h => h.elim) (fun h => h)) hDn hB.drew ho hne).mono ?_; rw [hmin]; rintro e W2 ⟨rfl, b1, b2, b3⟩)
        | fail
      all_goals
        have hFA : FullAt wr W2 bb X o n D L S n := .inr ⟨rfl, b1, b2, (((Kept.refl wr _).drew).trans b3 (fun _ _ h => h))⟩
        clear b1 b2 b3
        go_wp2
        go_roundw
        case rel => exact ⟨n, by go_num, rfl, hFA⟩
        case measure => simp [intOf]; omega
    · have hA := Go.Lib.hid (And.intro a1 (And.intro a2 a3))
      clear a1 a2 a3
      go_wp2
      go_ret2
      exact ⟨rfl, hA.out⟩

theorem or_be (a b : Int) (a0 : 0 ≤ a) (a1 : a < 256) (b0 : 0 ≤ b) (b1 : b < 256) : bits .or .u16 a (b * 256) = a + b * 256 := by
  obtain ⟨m, rfl⟩ := Int.eq_ofNat_of_zero_le a0
  obtain ⟨n, rfl⟩ := Int.eq_ofNat_of_zero_le b0
  have h1 : (BitVec.ofInt 16 (m : Int)).toNat = m := by
    rw [BitVec.ofInt_natCast, BitVec.toNat_ofNat]; exact Nat.mod_eq_of_lt (by omega)
  have h2 : (BitVec.ofInt 16 ((n : Int) * 256)).toNat = 2 ^ 8 * n := by
    have : ((n : Int) * 256) = ((2 ^ 8 * n : Nat) : Int) := by omega
    rw [this, BitVec.ofInt_natCast, BitVec.toNat_ofNat]; exact Nat.mod_eq_of_lt (by omega)
  show IntKind.u16.wrap ((BitVec.ofInt 16 (m : Int) ||| BitVec.ofInt 16 ((n : Int) * 256)).toNat : Int) = _
  rw [BitVec.toNat_or, h1, h2, Nat.or_comm, ← Nat.two_pow_add_eq_or_of_lt (by omega : m < 2 ^ 8), IntKind.wrap_u16]
  omega

set_option maxRecDepth 100000 in
set_option maxHeartbeats 1000000 in
theorem beU16_any (X o n c hi lo : Nat) (hn : 2 ≤ n) (h1 : hi < 256) (h2 : lo < 256) (w : World) (c0 : w.cell? ⟨X, o, none⟩ = some (.int .u8 (hi : Int))) (c1 : w.cell? ⟨X, o + 1, none⟩ = some (.int .u8 (lo : Int))) :
    Calls Try.prog 144 #[.slice (some ⟨X, o, none⟩) n c] w fun e w' => e = .returned (.int .u16 ((hi * 256 + lo : Nat) : Int)) ∧ ∃ q, w' = w.drewN q := by
  have hO := or_be (lo : Int) (hi : Int) (by omega) (by omega) (by omega) (by omega)
  have i0 : (0 : Int) < (n : Int) := by omega
  have i1 : (1 : Int) < (n : Int) := by omega
  have i0' : 0 < n := by omega
  have i1' : 1 < n := by omega
  have e8 : IntKind.u16.wrap ((hi : Int) * 256) = (hi : Int) * 256 := by rw [IntKind.wrap_u16]; omega
  go_enter Try.func144, Try.ntmps144
  go_wp2_with (fail)
  go_quiet (fail)
  go_wp2
  go_ret
  refine ⟨?_, _, rfl⟩
  have e : (lo : Int) + (hi : Int) * 256 = ((hi * 256 + lo : Nat) : Int) := by omega
  rw [← e]
  rfl
end Go.Proofs.Ytahcaoenddapoaa
