/- nat.bytes, Int.Bytes: a number's bytes, the highest first. -/
import Derived.Test.YthmopakaikhjlaaGreatDoorIst
import Derived.Test.YthmopakaikhjlaaGreatDoorApp
namespace Go.Proofs.YthmopakaikhjlaaGreatDoor
open Go.RowKit

/-- The number that bytes tell, the highest first. -/
def bev : List Nat → Nat
  | [] => 0
  | b :: B => b * 256 ^ B.length + bev B

theorem pow_word (k : Nat) : 18446744073709551616 ^ k = 256 ^ (8 * k) := by rw [Nat.pow_mul]

theorem byte_step (x j P : Nat) : x % 256 ^ j * P + x / 256 ^ j % 256 * (P * 256 ^ j) = x % 256 ^ (j + 1) * P := by
  have h : x % 256 ^ (j + 1) = x % 256 ^ j + 256 ^ j * (x / 256 ^ j % 256) := by
    rw [Nat.pow_succ, Nat.mod_mul]
  rw [h, Nat.add_mul]
  congr 1
  rw [Nat.mul_comm P, ← Nat.mul_assoc, Nat.mul_comm (x / 256 ^ j % 256)]

theorem set_zeros (r x : Nat) (S : List Nat) : (List.replicate (r + 1) 0 ++ S).set r x = List.replicate r 0 ++ (x :: S) := by
  rw [List.replicate_succ', List.append_assoc, List.set_append_right _ _ (by simp)]
  simp

theorem bev_zeros (r : Nat) (S : List Nat) : bev (List.replicate r 0 ++ S) = bev S := by
  induction r with
  | zero => rfl
  | succ r ih => simp only [List.replicate_succ, List.cons_append, bev, ih, Nat.zero_mul, Nat.zero_add]

set_option maxRecDepth 100000 in
set_option maxHeartbeats 4000000 in
theorem natBytes_any (lo base g N c : Nat) (z : Value) (L : List Nat) (w : World) (hz : Nt w lo z L) (hL : L.length ≤ 3) (hN : N = 8 * L.length) (hR : Row base w (.slice (some ⟨g, 0, none⟩) N c) (List.replicate N 0)) (hzg : z.ownBlock ≠ some g) :
    Calls Tryz.prog 53 #[z, .slice (some ⟨g, 0, none⟩) N c] w fun e w' => ∃ (i : Nat) (S : List Nat), e = .returned (.int .i64 (i : Int)) ∧ i ≤ N ∧ Row base w' (.slice (some ⟨g, 0, none⟩) N c) S ∧ bev S = nv L ∧ (∀ b ∈ S, b < 256) ∧ (∀ j, j < i → S[j]? = some 0) ∧ (∀ h : i < S.length, S[i] ≠ 0) ∧ Kept w w' (fun k => k = g) := by
  obtain ⟨A, cz, rfl, hcz⟩ := hz.slice
  have hcell : ∀ W, Kept w W (fun k => k = g) → ∀ k (hk : k < L.length), W.cell? ((A.getD ⟨0, 0, none⟩).add k) = some (.int .u64 ((L[k] : Nat) : Int)) ∧ ∃ gz, A = some ⟨gz, 0, none⟩ := by
    intro W hW k hk
    rcases hz.1 with ⟨h1, h2⟩ | ⟨gz, C, m, h1, h2, h3, h4, h5⟩
    · rw [h2] at hk; simp at hk
    · injection h1 with q1 q2 q3
      subst q1
      have hne : ¬ gz = g := fun e => hzg (by rw [e]; rfl)
      have h6 := (h3.kept hW hne).cellAt k (by rw [h5, List.length_take] at hk; omega)
      have e : L[k] = C[k]'(by rw [h5, List.length_take] at hk; omega) := by simp only [h5, List.getElem_take]
      refine ⟨?_, gz, rfl⟩
      rw [e]
      have hadd : (⟨gz, 0, none⟩ : Addr).add k = ⟨gz, k, none⟩ := by unfold Addr.add; split <;> simp_all
      simp only [Option.getD_some, hadd]
      exact h6
  have hLd := hz.2
  obtain ⟨n, hn⟩ : ∃ n, L.length = n := ⟨_, rfl⟩
  have HC := Go.Lib.hid hcell
  have HLD := Go.Lib.hid hLd
  have HR := Go.Lib.hid hR
  have HN := Go.Lib.hid (And.intro hn hN)
  rw [hn] at hL hcz ⊢
  have hN24 : N ≤ 24 := by omega
  clear hcell hLd hR hz hn hzg hN
  go_enter Tryz.func53, Tryz.ntmps53
  go_wp2_with (fail)
  go_loopw [12, 4] (fun kk i wr => ∃ (k r : Nat) (S : List Nat), k ≤ n ∧ kk = .int .i64 (k : Int) ∧ i = .int .i64 (r : Int) ∧ r + 8 * k = N ∧ S.length = 8 * k ∧ Row base wr (.slice (some ⟨g, 0, none⟩) N c) (List.replicate r 0 ++ S) ∧ bev S = nv (L.take k) ∧ (∀ b ∈ S, b < 256) ∧ Kept w wr (fun k => k = g)) (fun kk _ _ => n - (intOf kk).toNat)
  case atStart => exact ⟨0, N, [], Nat.zero_le _, rfl, rfl, by omega, rfl, by simpa using HR.out, rfl, (fun b hb => by cases hb), Kept.refl _ _⟩
  case round =>
    obtain ⟨k, r, S, hk, rfl, rfl, hr, hS, hrow, hv, hb, hK⟩ := hrel
    have H0 := Go.Lib.hid (And.intro hr (And.intro hS (And.intro hrow (And.intro hv (And.intro hb hK)))))
    clear hr hS hrow hv hb hK
    by_cases hkn : k < n
    · have hkL : k < L.length := by rw [HN.out.1]; exact hkn
      obtain ⟨c0, gz, rfl⟩ := HC.out wr H0.out.2.2.2.2.2 k hkL
      have hadd : (⟨gz, 0, none⟩ : Addr).add k = ⟨gz, k, none⟩ := by unfold Addr.add; split <;> simp_all
      simp only [Option.getD_some, hadd] at c0
      have hxd := HLD.out _ (List.getElem_mem hkL)
      have hnt := nv_take L k hkL
      obtain ⟨x, hx⟩ : ∃ x, L[k] = x := ⟨_, rfl⟩
      rw [hx] at c0 hxd hnt
      have HX := Go.Lib.hid (And.intro hxd hnt)
      clear hx hxd hnt
      go_wp2_with (fail)
      go_loopw [7, 4, 6] (fun jj i dd wq => ∃ (j r' d : Nat) (S' : List Nat), j ≤ 8 ∧ jj = .int .i64 (j : Int) ∧ i = .int .i64 (r' : Int) ∧ dd = .int .u64 (d : Int) ∧ d = x / 256 ^ j ∧ r' + j = r ∧ S'.length = 8 * k + j ∧ Row base wq (.slice (some ⟨g, 0, none⟩) N c) (List.replicate r' 0 ++ S') ∧ bev S' = nv (L.take k) + x % 256 ^ j * 256 ^ (8 * k) ∧ (∀ b ∈ S', b < 256) ∧ Kept w wq (fun k => k = g)) (fun jj _ _ _ => 8 - (intOf jj).toNat)
      case atStart => exact ⟨0, r, x, S, Nat.zero_le _, rfl, rfl, rfl, by simp, rfl, H0.out.2.1, H0.out.2.2.1, by rw [H0.out.2.2.2.1]; simp [Nat.mod_one], H0.out.2.2.2.2.1, H0.out.2.2.2.2.2⟩
      case round =>
        obtain ⟨j, r', d, S', hj, rfl, rfl, rfl, hd, hr', hS', hrow', hv', hb', hK'⟩ := hrel
        have H1 := Go.Lib.hid (And.intro hd (And.intro hr' (And.intro hS' (And.intro hrow' (And.intro hv' (And.intro hb' hK'))))))
        by_cases hj8 : j < 8
        · have hr1 : 1 ≤ r' := by have h1 := H0.out.1; have h2 := HN.out.1; have h3 := HN.out.2; omega
          obtain ⟨r2, rfl⟩ : ∃ r2, r' = r2 + 1 := ⟨r' - 1, by omega⟩
          have hrN : r2 < N := by have := H0.out.1; omega
          have hcl := hrow'.cellAt r2 (by simp; omega)
          have hfz := hrow'.frozenAt r2
          obtain ⟨zz, hzz⟩ : ∃ zz, (List.replicate (r2 + 1) 0 ++ S')[r2]'(by simp; omega) = zz := ⟨_, rfl⟩
          rw [hzz] at hcl
          have hwr : IntKind.u8.wrap (d : Int) = ((d % 256 : Nat) : Int) := by rw [IntKind.wrap_u8]; omega
          have i1 : (r2 : Int) < (N : Int) := by omega
          have i2 : (r2 : Int) ≤ 24 := by omega
          have i3 : (j : Int) < 8 := by omega
          rw [show ((r2 + 1 : Nat) : Int) = (r2 : Int) + 1 by omega]
          clear hd hr' hS' hrow' hv' hb' hK' hzz
          go_wp2_with (fail)
          go_roundw
          case rel =>
            have hst := H1.out.2.2.2.1.stored r2 (d % 256)
            rw [set_zeros] at hst
            refine ⟨j + 1, r2, d / 256, d % 256 :: S', hj8, by simp, rfl, by simp, ?_, by have := H1.out.2.1; omega, by simp [H1.out.2.2.1]; omega, hst, ?_, ?_, H1.out.2.2.2.2.2.2.setCell (p := ⟨g, r2, none⟩) (.inl rfl) _⟩
            · rw [H1.out.1, Nat.div_div_eq_div_mul, Nat.pow_succ]
            · have h1 := byte_step x j (256 ^ (8 * k))
              rw [bev, H1.out.2.2.1, H1.out.2.2.2.2.1, H1.out.1, Nat.pow_add]
              omega
            · intro b hb
              rcases List.mem_cons.1 hb with hb | hb
              · rw [hb]; omega
              · exact H1.out.2.2.2.2.2.1 b hb
          case measure => simp [intOf]; omega
        · have hj8' : j = 8 := by omega
          subst hj8'
          clear hd hr' hS' hrow' hv' hb' hK'
          go_wp2_with (fail)
          go_roundw
          case rel =>
            refine ⟨k + 1, r', S', hkn, by simp, rfl, by have := H1.out.2.1; have := H0.out.1; omega, by have := H1.out.2.2.1; omega, H1.out.2.2.2.1, ?_, H1.out.2.2.2.2.2.1, H1.out.2.2.2.2.2.2⟩
            rw [H1.out.2.2.2.2.1, HX.out.2, pow_word, Nat.mod_eq_of_lt HX.out.1]
          case measure => simp [intOf]; omega
    · have hkn' : k = n := by omega
      have hr0 : r = 0 := by have h1 := H0.out.1; have h2 := HN.out.1; have h3 := HN.out.2; omega
      subst hr0
      have hvL : nv (L.take k) = nv L := by rw [hkn', ← HN.out.1, List.take_length]
      have hrow0 := H0.out.2.2.1
      simp only [List.replicate_zero, List.nil_append] at hrow0
      have hSl : S.length = N := by have h1 := H0.out.1; have h2 := H0.out.2.1; omega
      have H2 := Go.Lib.hid (And.intro (H0.out.2.2.2.1.trans hvL) (And.intro hrow0 (And.intro H0.out.2.2.2.2 hSl)))
      clear hvL hrow0 hSl
      go_wp2_with (fail)
      go_loopw [4] (fun i wq => ∃ m : Nat, m ≤ N ∧ i = .int .i64 (m : Int) ∧ (∀ j, j < m → S[j]? = some 0) ∧ wq = wr) (fun i _ => N - (intOf i).toNat)
      case atStart => exact ⟨0, Nat.zero_le _, rfl, (fun j hj => by omega), rfl⟩
      case round =>
        obtain ⟨m, hm, rfl, hz0, hw⟩ := hrel
        replace hw := hw.symm
        subst hw
        have HZ := Go.Lib.hid hz0
        clear hz0
        by_cases hmN : m < N
        · have hmS : m < S.length := by rw [H2.out.2.2.2]; exact hmN
          have c0 := H2.out.2.1.cellAt m hmS
          have d0 : decide ((m : Int) < (N : Int)) = true := by simp; omega
          have d0n : decide (m < N) = true := by simpa using hmN
          have i1 : (m : Int) < (N : Int) := by omega
          have i2 : (m : Int) ≤ 24 := by omega
          obtain ⟨x, hx⟩ : ∃ x, S[m] = x := ⟨_, rfl⟩
          rw [hx] at c0
          have HX := Go.Lib.hid hx
          clear hx
          by_cases hx0 : x = 0
          · subst hx0
            go_wp2_with (fail)
            go_roundw
            case rel =>
              refine ⟨m + 1, hmN, by simp, fun j hj => ?_, trivial⟩
              by_cases hjm : j = m
              · subst hjm; rw [List.getElem?_eq_getElem hmS, HX.out]
              · exact HZ.out j (by omega)
            case measure => simp [intOf]; omega
          · have e1 : ((x : Int) == 0) = false := by simp; omega
            have e2 : (x == 0) = false := by simp; omega
            go_wp2
            go_ret
            exact ⟨m, S, rfl, hm, H2.out.2.1, H2.out.1, H2.out.2.2.1.1, HZ.out, fun h => by rw [HX.out]; exact hx0, H2.out.2.2.1.2⟩
        · have hmN' : m = N := by omega
          have d0 : decide ((m : Int) < (N : Int)) = false := by simp; omega
          have d0n : decide (m < N) = false := by simpa using hmN
          go_wp2
          go_ret
          exact ⟨m, S, rfl, hm, H2.out.2.1, H2.out.1, H2.out.2.2.1.1, HZ.out, fun h => by have := H2.out.2.2.2; omega, H2.out.2.2.1.2⟩
end Go.Proofs.YthmopakaikhjlaaGreatDoor
