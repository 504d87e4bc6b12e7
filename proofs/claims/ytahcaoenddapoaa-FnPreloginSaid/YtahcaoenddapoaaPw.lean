/- The buffer in the midst of a prelogin: what has been written; what it leaves alone. -/
import Derived.Test.YtahcaoenddapoaaWb
namespace Go.Proofs.Ytahcaoenddapoaa
open Go.RowKit

theorem Out.from {w : World} {base g hb bb ps N C typ k : Nat} {v : Value} {T : List Nat} (h : Out w base g hb bb ps N C typ k v T) : ∀ j, RawS g hb bb v j → base ≤ j := by
  obtain ⟨_, _, L, hR, _⟩ := h
  exact RawS.ge hR

/-- T has been written (since the world ws); what lies between b0 and b1, and below base, is left alone. -/
structure Pw (ws w : World) (base g hb bb C b0 b1 : Nat) (v : Value) (T : List Nat) : Prop where
  out : Out w base g hb bb 32767 32768 C 18 0 v T
  apart : ∀ j, RawS g hb bb v j → j < b0 ∨ b1 ≤ j
  bas : base ≤ w.heap.size
  from1 : b1 ≤ w.heap.size
  kept : Kept ws w (fun j => base ≤ j ∧ (j < b0 ∨ b1 ≤ j))
  c1 : 65536 ≤ C
  c2 : C ≤ 65536

variable {ws w w' : World} {base g hb bb C b0 b1 : Nat} {v : Value} {T : List Nat}

theorem Pw.fresh (h : Pw ws w base g hb bb C b0 b1 v T) (hk : Fresh w w') : Pw ws w' base g hb bb C b0 b1 v T :=
  ⟨h.out.fresh hk, h.apart, Nat.le_trans h.bas hk.size, Nat.le_trans h.from1 hk.size, h.kept.fresh hk, h.c1, h.c2⟩

theorem Pw.step (h : Pw ws w base g hb bb C b0 b1 v T) {v' : Value} {T' : List Nat} (hO : Out w' base g hb bb 32767 32768 C 18 0 v' T') (hK : Kept w w' (RawS g hb bb v)) (hM : Moved w v v') : Pw ws w' base g hb bb C b0 b1 v' T' := by
  refine ⟨hO, fun j hj => ?_, Nat.le_trans h.bas hK.size, Nat.le_trans h.from1 hK.size, h.kept.trans hK (fun j _ hj => ⟨h.out.from j hj, h.apart j hj⟩), h.c1, h.c2⟩
  rcases hj with hj | hj | hj | hj
  · exact h.apart j (.inl hj)
  · exact h.apart j (.inr (.inl hj))
  · exact h.apart j (.inr (.inr (.inl hj)))
  · rcases hM j hj with h1 | h1
    · exact h.apart j (.inr (.inr (.inr h1)))
    · exact .inr (Nat.le_trans h.from1 h1)

theorem less_zero {k : Nat} {T : List Nat} (h : Less 32759 k T) (hT : T.length ≤ 32000) : k = 0 := by
  rcases h with h | h
  · exact h
  · cases k with
    | zero => rfl
    | succ k => rw [Nat.mul_succ] at h; omega

theorem pw_byte (b : Nat) (w : World) (h : Pw ws w base g hb bb C b0 b1 v T) (hT : T.length ≤ 31000) :
    Calls Try.prog 125 #[.pointer (some ⟨g, 0, none⟩), .int .u8 b] w fun e w' => e = .returned .nilIface ∧ Pw ws w' base g hb bb C b0 b1 v (T ++ [b]) := by
  have h1 := h.c1
  have h2 := h.c2
  refine (writeByte_any base g hb bb 32767 32768 C 18 b v T w h.out (by omega) (by omega) (by omega) (by omega)).mono ?_
  rintro e w' ⟨rfl, hO, hK⟩
  exact ⟨rfl, h.step hO hK (Moved.refl _ _)⟩

theorem pw_be (x : Nat) (hx : x < 65536) (w : World) (h : Pw ws w base g hb bb C b0 b1 v T) (hT : T.length ≤ 31000) :
    Calls Try.prog 126 #[.iface 111 (.pointer (some ⟨g, 0, none⟩)), .iface 139 (.int .u16 x)] w fun e w' => e = .returned .nilIface ∧ ∃ v', Pw ws w' base g hb bb C b0 b1 v' (T ++ [x / 256 % 256, x % 256]) := by
  have h1 := h.c1
  have h2 := h.c2
  refine (writeBE_any base g hb bb 32767 32768 C 18 0 x v T w h.out (.inl rfl) hx (by omega) (by omega) (by omega) (by omega) (by omega) h.bas (by omega)).mono ?_
  rintro e w' ⟨rfl, k', v', hO, hl, hK, hM⟩
  obtain rfl := less_zero hl (by simp; omega)
  exact ⟨rfl, v', h.step hO hK hM⟩

theorem pw_write (x : Value) (m : List Nat) (w : World) (h : Pw ws w base g hb bb C b0 b1 v T) (hx : Bts w x m) (hxb : ∀ j, x.ownBlock = some j → j < base) (hT : T.length + m.length ≤ 32000) :
    Calls Try.prog 78 #[.pointer (some ⟨g, 0, none⟩), x] w fun e w' => e = .returned (.tuple #[.int .i64 (m.length : Int), .nilIface]) ∧ ∃ v', Pw ws w' base g hb bb C b0 b1 v' (T ++ m) := by
  have h1 := h.c1
  have h2 := h.c2
  refine (write_any base g hb bb 32767 32768 C 18 0 v x T m w h.out (.inl rfl) hx (fun j hj hs => ?_) (by omega) (by omega) (by omega) (by omega) (by omega) h.bas (by omega)).mono ?_
  · have a1 := hxb j hj
    have a2 := h.out.from j hs
    omega
  rintro e w' ⟨rfl, k', v', hO, hl, hK, hM⟩
  obtain rfl := less_zero hl (by simp; omega)
  exact ⟨rfl, v', h.step hO hK hM⟩

theorem pw_finish (w : World) (h : Pw ws w base g hb bb C b0 b1 v T) (hT : T.length ≤ 32000) :
    Calls Try.prog 79 #[.pointer (some ⟨g, 0, none⟩)] w fun e w' => e = .returned .nilIface ∧ ∃ v' L seq l, Raw w' base g hb bb 32767 32768 C 8 seq 18 v' l L ∧ AllPacked 32759 18 T l ∧ Kept ws w' (fun j => base ≤ j) := by
  have h1 := h.c1
  have h2 := h.c2
  refine (finish_any base g hb bb 32767 32768 C 18 0 v T w h.out (by omega) (by omega) (by omega) (by omega) (by omega) h.bas (by omega)).mono ?_
  rintro e w' ⟨rfl, v', L, seq, hR, hK, hM⟩
  exact ⟨rfl, v', L, seq, _, hR, ⟨0, .inl rfl, by omega, rfl⟩, (h.kept.mono (fun j _ hj => hj.1)).trans hK (fun j _ hj => h.out.from j hj)⟩
end Go.Proofs.Ytahcaoenddapoaa
