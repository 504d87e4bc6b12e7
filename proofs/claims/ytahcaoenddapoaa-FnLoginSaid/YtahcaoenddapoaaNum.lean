/- spec.number: a number of some bytes, the lowest one first. -/
import Derived.Test.YtahcaoenddapoaaLe
namespace Go.Proofs.Ytahcaoenddapoaa
open Go.RowKit

def leVal : List Nat → Nat
  | [] => 0
  | b :: l => b + 256 * leVal l

theorem leVal_lt : ∀ (l : List Nat), (∀ b ∈ l, b < 256) → leVal l < 256 ^ l.length
  | [], _ => by decide
  | b :: l, h => by
    have h1 := h b (List.mem_cons_self ..)
    have h2 := leVal_lt l (fun x hx => h x (List.mem_cons_of_mem _ hx))
    show b + 256 * leVal l < 256 ^ (l.length + 1)
    rw [Nat.pow_succ]
    omega

theorem leVal_leB (n : Nat) : ∀ k, leVal (leB n k) = n % 256 ^ k
  | 0 => by simp [leB, leVal, Nat.mod_one]
  | k + 1 => by
    have e : leB n (k + 1) = n % 256 :: leB (n / 256) k := by
      unfold leB
      rw [List.range_succ_eq_map, List.map_cons, List.map_map]
      congr 1
      · simp
      · apply List.map_congr_left
        intro i _
        simp [Nat.pow_succ, Nat.div_div_eq_div_mul, Nat.mul_comm]
    rw [e]
    show n % 256 + 256 * leVal (leB (n / 256) k) = _
    rw [leVal_leB (n / 256) k, Nat.pow_succ, Nat.mul_comm (256 ^ k) 256, Nat.mod_mul]

theorem or_u64 (a b : Int) (a0 : 0 ≤ a) (a1 : a * 256 + b < 18446744073709551616) (b0 : 0 ≤ b) (b1 : b < 256) : bits .or .u64 (a * 256) b = a * 256 + b := by
  obtain ⟨m, rfl⟩ := Int.eq_ofNat_of_zero_le a0
  obtain ⟨n, rfl⟩ := Int.eq_ofNat_of_zero_le b0
  have h1 : (BitVec.ofInt 64 (n : Int)).toNat = n := by
    rw [BitVec.ofInt_natCast, BitVec.toNat_ofNat]; exact Nat.mod_eq_of_lt (by omega)
  have h2 : (BitVec.ofInt 64 ((m : Int) * 256)).toNat = 2 ^ 8 * m := by
    have : ((m : Int) * 256) = ((2 ^ 8 * m : Nat) : Int) := by omega
    rw [this, BitVec.ofInt_natCast, BitVec.toNat_ofNat]; exact Nat.mod_eq_of_lt (by omega)
  show IntKind.u64.wrap ((BitVec.ofInt 64 ((m : Int) * 256) ||| BitVec.ofInt 64 (n : Int)).toNat : Int) = _
  rw [BitVec.toNat_or, h1, h2, ← Nat.two_pow_add_eq_or_of_lt (by omega : n < 2 ^ 8), IntKind.wrap_u64]
  omega

theorem pow_le8 (k : Nat) (h : k ≤ 7) : 256 ^ k ≤ 72057594037927936 := by
  have : (256 : Nat) ^ k ≤ 256 ^ 7 := Nat.pow_le_pow_right (by decide) h
  simpa using this

set_option maxRecDepth 100000 in
set_option maxHeartbeats 1000000 in
theorem number_any (l : List Nat) (hb : ∀ b ∈ l, b < 256) (A : Option Addr) (n c : Nat) (w : World) (hx : Bts w (.slice A n c) l) (hn : n ≤ 8) :
    Calls Try.prog 50 #[.slice A n c] w fun e w' => e = .returned (.int .u64 (leVal l : Int)) ∧ w' = w := by
  have hnl := hx.len
  have hnl1 : n ≤ l.length := by omega
  have hnl2 : l.length ≤ n := by omega
  clear hnl
  go_enter Try.func50, Try.ntmps50
  go_wp2_with (fail)
  go_loop [3, 4] (fun v i => ∃ j : Nat, j ≤ n ∧ i = .int .i64 ((j : Int) - 1) ∧ v = .int .u64 (leVal (l.drop j) : Int)) (fun _ i => ((match i with | .int _ z => z | _ => 0) + 1).toNat)
  case atStart => exact ⟨n, Nat.le_refl _, rfl, by rw [List.drop_eq_nil_of_le (by omega)]; rfl⟩
  case round =>
    obtain ⟨j, hj, rfl, rfl⟩ := hrel
    by_cases h0 : j = 0
    · subst h0
      go_wp2
      go_ret
      simp
    · obtain ⟨k, rfl⟩ : ∃ k, j = k + 1 := ⟨j - 1, by omega⟩
      obtain ⟨A', c', e, r1, r2, r3, r4⟩ := hx
      injection e with e1 e2 e3
      subst e1
      obtain ⟨ad, rfl⟩ : ∃ ad, A = some ad := by
        cases A with
        | none => have := (r3 rfl).1; have := congrArg List.length this; rw [List.length_nil] at this; omega
        | some ad => exact ⟨ad, rfl⟩
      obtain ⟨b, o, rfl, hlt, hc⟩ := r4 ad rfl
      have hk : k < l.length := by omega
      have hcell := hc k hk
      have hd : l.drop k = l[k] :: l.drop (k + 1) := List.drop_eq_getElem_cons hk
      have hv : leVal (l.drop k) = l[k] + 256 * leVal (l.drop (k + 1)) := by rw [hd]; rfl
      have hlk := hb l[k] (List.getElem_mem hk)
      have hlv := leVal_lt (l.drop (k + 1)) (fun x hx => hb x (List.mem_of_mem_drop hx))
      have hpw := pow_le8 (l.drop (k + 1)).length (by rw [List.length_drop]; omega)
      have HV := Go.Lib.hid hv
      generalize leVal (l.drop (k + 1)) = V at *
      generalize hV' : leVal (l.drop k) = V' at *
      have HV' := Go.Lib.hid hV'
      generalize l[k] = B at *
      have hw8 : IntKind.u64.wrap ((V : Int) * 256) = (V : Int) * 256 := by rw [IntKind.wrap_u64]; omega
      have hor := or_u64 (V : Int) (B : Int) (by omega) (by omega) (by omega) (by omega)
      have hkn : ((k : Nat) : Int) < (n : Int) := by omega
      have hVV : (V : Int) * 256 + (B : Int) = (V' : Int) := by omega
      rw [hVV] at hor
      clear hV' hv hd hVV hlv hpw e2 e3 r1 r2 r3 r4 hc
      go_wp2
      go_round
      case rel => exact ⟨k, by omega, by go_num, by rw [HV'.out]⟩
      case measure => simp <;> omega
end Go.Proofs.Ytahcaoenddapoaa
