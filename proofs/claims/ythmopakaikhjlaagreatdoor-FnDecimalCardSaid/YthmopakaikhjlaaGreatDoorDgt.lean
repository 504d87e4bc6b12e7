/- spec.digits. -/
import Derived.Test.YthmopakaikhjlaaGreatDoorSof
namespace Go.Proofs.YthmopakaikhjlaaGreatDoor
open Go.RowKit

/-- A proper text of digits. -/
def Okd (s : ByteArray) (p : Nat) : Prop := ∃ neg ds, Prop10 s p neg ds
theorem nil_front (s : ByteArray) : s = strOf (if false then [45] else []) ++ s := by
  apply ByteArray.ext
  simp [strOf, bytesOf, ByteArray.data_append]
/-- The answer is a truth value; if true, P holds. -/
def Ans (e : Ending) (P : Prop) : Prop := ∃ b, e = .returned (.bool b) ∧ (b = true → P)

set_option maxRecDepth 100000 in
set_option maxHeartbeats 4000000 in
theorem digits_any (s : ByteArray) (p : Nat) (hs : s.size ≤ 2147483647) (hp : p ≤ 38) (w : World) :
    Calls Tryz.prog 14 #[.string s, .int .i64 (p : Int)] w fun e w' => Ans e (Okd s p) ∧ w' = w := by
  have i1 : (s.size : Int) ≤ 2147483647 := by omega
  have ip : (p : Int) ≤ 38 := by omega
  have hem : ∀ u : ByteArray, u.toList.isEmpty = decide (u.size = 0) := fun u => by
    rw [ByteArray.toList_eq]
    cases h : u.data.toList with
    | nil => have : u.size = 0 := congrArg List.length h; simp [this]
    | cons a l => have h1 : u.size = l.length + 1 := congrArg List.length h; simp [h1]
  have HEM := Go.Lib.hid hem
  clear hem
  by_cases h0 : s.size = 0
  · have g1 : s.toList.isEmpty = true := by rw [HEM.out]; simp [h0]
    go_enter Tryz.func14, Tryz.ntmps14
    go_wp2_with (fail)
    go_loopw [19] (fun i wr => i = .int .i64 0 ∧ wr = w) (fun _ _ => 0)
    case atStart => exact ⟨rfl, rfl⟩
    case round =>
      obtain ⟨rfl, hw⟩ := hrel
      replace hw := hw.symm
      subst hw
      have h0i : (s.size : Int) = 0 := by omega
      go_wp2_with (fail)
      go_ret
      exact ⟨⟨false, rfl, fun h => by cases h⟩, rfl⟩
  · have g1 : s.toList.isEmpty = false := by rw [HEM.out]; simp [h0]
    have g2 : 0 < s.size := by omega
    by_cases h45 : s[0].toNat = 45
    · have g3 : (((s[0].toNat : Nat) : Int) == 45) = true := by simp; omega
      have g4 : (s[0].toNat == 45) = true := by simpa using h45
      have hsu : s = strOf (if true then [45] else []) ++ s.extract 1 s.size := by
        have h1 := strOf_natsOf s
        have hl := natsOf_length s
        have h2 := natsOf_get s 0 (by omega) g2
        cases hn : natsOf s with
        | nil => rw [hn] at hl; simp at hl; omega
        | cons a l =>
          have h3 : (natsOf s)[0]'(by omega) = a := by simp only [hn]; rfl
          have ha : a = 45 := by rw [← h3, h2]; exact h45
          rw [← h1, hn, ha, strOf_extract, ← strOf_append]
          congr 1
          rw [strOf_size]
          simp
      have hes : (s.extract 1 s.size).size = s.size - 1 := by simp [ByteArray.size_extract]
      obtain ⟨u, hu⟩ : ∃ u, s.extract 1 s.size = u := ⟨_, rfl⟩
      by_cases hO : (u.toList == [48]) = true
      · clear hsu
        go_enter Tryz.func14, Tryz.ntmps14
        go_wp2_with (fail)
        go_ret
        exact ⟨⟨false, rfl, fun h => by cases h⟩, rfl⟩
      · replace hO : (u.toList == [48]) = false := by simpa using hO
        have hO2 : ((s.extract 1 s.size).toList == [48]) = false := by rw [hu]; exact hO
        have HSU := Go.Lib.hid hsu
        have HU := Go.Lib.hid hu
        rw [hu] at hes
        have hub : u.size ≤ 2147483647 := by omega
        clear hes
        clear hsu hu
        go_enter Tryz.func14, Tryz.ntmps14
        go_upto_region 5 with (fail)
        rw [HU.out]
        have HS := Go.Lib.hid (by rw [← HU.out]; exact HSU.out : s = strOf (if true then [45] else []) ++ u)
        have HOO := Go.Lib.hid hO
        clear HSU hO2 g1 g3 g4 hO
        have i2 : (u.size : Int) ≤ 2147483647 := by omega
        go_wp2_with (fail)
        go_loopw [19] (fun i wr => ∃ k : Nat, k ≤ u.size ∧ i = .int .i64 (k : Int) ∧ (∀ j (h : j < u.size), j < k → 48 ≤ u[j].toNat ∧ u[j].toNat ≤ 57) ∧ wr = w) (fun i _ => u.size - (intOf i).toNat)
        case atStart => exact ⟨0, Nat.zero_le _, rfl, fun j _ h => absurd h (Nat.not_lt_zero j), rfl⟩
        case round =>
          obtain ⟨k, hk, rfl, hd, hw⟩ := hrel
          replace hw := hw.symm
          subst hw
          have HD := Go.Lib.hid hd
          clear hd
          by_cases hku : k < u.size
          · have k1 : (k : Int) < (u.size : Int) := by omega
            by_cases hlo : u[k].toNat < 48
            · have k2 : ((u[k].toNat : Nat) : Int) < 48 := by omega
              go_wp2_with (fail)
              go_ret
              exact ⟨⟨false, rfl, fun h => by cases h⟩, rfl⟩
            · have k2 : ¬ ((u[k].toNat : Nat) : Int) < 48 := by omega
              by_cases hhi : 57 < u[k].toNat
              · have k3 : 57 < ((u[k].toNat : Nat) : Int) := by omega
                go_wp2_with (fail)
                go_ret
                exact ⟨⟨false, rfl, fun h => by cases h⟩, rfl⟩
              · have k3 : ¬ 57 < ((u[k].toNat : Nat) : Int) := by omega
                go_wp2_with (fail)
                go_roundw
                case rel =>
                  refine ⟨k + 1, hku, rfl, fun j h hj => ?_, trivial⟩
                  by_cases hjk : j = k
                  · subst hjk; omega
                  · exact HD.out j h (by omega)
                case measure => first | (simp [intOf]; done) | (simp [intOf]; omega)
          · have k1 : ¬ (k : Int) < (u.size : Int) := by omega
            by_cases hE : u.size = 0
            · have g5 : u.toList.isEmpty = true := by rw [HEM.out]; simp [hE]
              go_wp2_with (fail)
              go_ret
              exact ⟨⟨false, rfl, fun h => by cases h⟩, rfl⟩
            · have g5 : u.toList.isEmpty = false := by rw [HEM.out]; simp [hE]
              have g6 : 0 < u.size := by omega
              by_cases hP : u.size ≤ p
              · have g7 : (u.size : Int) ≤ (p : Int) := by omega
                by_cases hZ : u[0].toNat = 48
                · have g8 : (((u[0].toNat : Nat) : Int) == 48) = true := by simp; omega
                  have g9 : (u[0].toNat == 48) = true := by simpa using hZ
                  by_cases hO2 : (u.toList == [48]) = true
                  · have HF := Go.Lib.hid (ok_digits s u p true HS.out (fun j h => HD.out j h (by omega)) g6 hP (.inr hO2) (fun _ => HOO.out))
                    go_wp2_with (fail)
                    go_ret
                    exact ⟨⟨true, rfl, fun _ => ⟨true, HF.out⟩⟩, rfl⟩
                  · replace hO2 : (u.toList == [48]) = false := by simpa using hO2
                    go_wp2_with (fail)
                    go_ret
                    exact ⟨⟨false, rfl, fun h => by cases h⟩, rfl⟩
                · have g8 : (((u[0].toNat : Nat) : Int) == 48) = false := by simp; omega
                  have g9 : (u[0].toNat == 48) = false := by simpa using hZ
                  have g10 : ¬ ((u[0].toNat : Nat) : Int) = 48 := by omega
                  have HF := Go.Lib.hid (ok_digits s u p true HS.out (fun j h => HD.out j h (by omega)) g6 hP (.inl hZ) (fun _ => HOO.out))
                  go_wp2_with (fail)
                  go_ret
                  exact ⟨⟨true, rfl, fun _ => ⟨true, HF.out⟩⟩, rfl⟩
              · have g7 : ¬ (u.size : Int) ≤ (p : Int) := by omega
                go_wp2_with (fail)
                go_ret
                exact ⟨⟨false, rfl, fun h => by cases h⟩, rfl⟩
    · have g3 : (((s[0].toNat : Nat) : Int) == 45) = false := by simp; omega
      have g4 : (s[0].toNat == 45) = false := by simpa using h45
      go_enter Tryz.func14, Tryz.ntmps14
      go_upto_region 5 with (fail)
      have i2 : (s.size : Int) ≤ 2147483647 := by omega
      go_wp2_with (fail)
      go_loopw [19] (fun i wr => ∃ k : Nat, k ≤ s.size ∧ i = .int .i64 (k : Int) ∧ (∀ j (h : j < s.size), j < k → 48 ≤ s[j].toNat ∧ s[j].toNat ≤ 57) ∧ wr = w) (fun i _ => s.size - (intOf i).toNat)
      case atStart => exact ⟨0, Nat.zero_le _, rfl, fun j _ h => absurd h (Nat.not_lt_zero j), rfl⟩
      case round =>
        obtain ⟨k, hk, rfl, hd, hw⟩ := hrel
        replace hw := hw.symm
        subst hw
        have HD := Go.Lib.hid hd
        clear hd
        by_cases hku : k < s.size
        · have k1 : (k : Int) < (s.size : Int) := by omega
          by_cases hlo : s[k].toNat < 48
          · have k2 : ((s[k].toNat : Nat) : Int) < 48 := by omega
            go_wp2_with (fail)
            go_ret
            exact ⟨⟨false, rfl, fun h => by cases h⟩, rfl⟩
          · have k2 : ¬ ((s[k].toNat : Nat) : Int) < 48 := by omega
            by_cases hhi : 57 < s[k].toNat
            · have k3 : 57 < ((s[k].toNat : Nat) : Int) := by omega
              go_wp2_with (fail)
              go_ret
              exact ⟨⟨false, rfl, fun h => by cases h⟩, rfl⟩
            · have k3 : ¬ 57 < ((s[k].toNat : Nat) : Int) := by omega
              go_wp2_with (fail)
              go_roundw
              case rel =>
                refine ⟨k + 1, hku, rfl, fun j h hj => ?_, trivial⟩
                by_cases hjk : j = k
                · subst hjk; omega
                · exact HD.out j h (by omega)
              case measure => first | (simp [intOf]; done) | (simp [intOf]; omega)
        · have k1 : ¬ (k : Int) < (s.size : Int) := by omega
          by_cases hE : s.size = 0
          · have g5 : s.toList.isEmpty = true := by rw [HEM.out]; simp [hE]
            exact absurd hE h0
          · have g5 : s.toList.isEmpty = false := by rw [HEM.out]; simp [hE]
            have g6 : 0 < s.size := by omega
            by_cases hP : s.size ≤ p
            · have g7 : (s.size : Int) ≤ (p : Int) := by omega
              by_cases hZ : s[0].toNat = 48
              · have g8 : (((s[0].toNat : Nat) : Int) == 48) = true := by simp; omega
                have g9 : (s[0].toNat == 48) = true := by simpa using hZ
                by_cases hO2 : (s.toList == [48]) = true
                · have HF := Go.Lib.hid (ok_digits s s p false (nil_front s) (fun j h => HD.out j h (by omega)) g6 hP (.inr hO2) (fun h => by cases h))
                  go_wp2_with (fail)
                  go_ret
                  exact ⟨⟨true, rfl, fun _ => ⟨false, HF.out⟩⟩, rfl⟩
                · replace hO2 : (s.toList == [48]) = false := by simpa using hO2
                  go_wp2_with (fail)
                  go_ret
                  exact ⟨⟨false, rfl, fun h => by cases h⟩, rfl⟩
              · have g8 : (((s[0].toNat : Nat) : Int) == 48) = false := by simp; omega
                have g9 : (s[0].toNat == 48) = false := by simpa using hZ
                have g10 : ¬ ((s[0].toNat : Nat) : Int) = 48 := by omega
                have HF := Go.Lib.hid (ok_digits s s p false (nil_front s) (fun j h => HD.out j h (by omega)) g6 hP (.inl hZ) (fun h => by cases h))
                go_wp2_with (fail)
                go_ret
                exact ⟨⟨true, rfl, fun _ => ⟨false, HF.out⟩⟩, rfl⟩
            · have g7 : ¬ (s.size : Int) ≤ (p : Int) := by omega
              go_wp2_with (fail)
              go_ret
              exact ⟨⟨false, rfl, fun h => by cases h⟩, rfl⟩
end Go.Proofs.YthmopakaikhjlaaGreatDoor
