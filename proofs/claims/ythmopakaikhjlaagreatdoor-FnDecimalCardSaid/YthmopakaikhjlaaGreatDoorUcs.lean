/- The walk of spec.UCS2: a text's units of UTF-16, the lower byte first. -/
import Derived.Test.YthmopakaikhjlaaGreatDoorWbytes
import Derived.Test.YthmopakaikhjlaaGreatDoorUtf
import Derived.WalkSmall
namespace Go.Proofs.YthmopakaikhjlaaGreatDoor
open Go.RowKit

theorem put_at {X Y : Int} (n k : Nat) (hX : X = (n : Int)) (hY : Y = (k : Int)) (p : Nat) (v : Value) (l : List Nat) (base : Nat) (hk : k ≤ 8) (hl : l.length ≤ 140737488350000) (w : World) (hw : Wr w base p v l) (hb : base ≤ w.heap.size) :
    Calls Tryz.prog 35 #[.pointer (some ⟨p, 0, none⟩), .int .u64 X, .int .i64 Y] w fun e w' => e = .returned (.tuple #[]) ∧ ∃ v', Wr w' base p v' (l ++ leB n k) ∧ Kept w w' (WrS p v) ∧ Moved w v v' := by
  subst hX
  subst hY
  exact put_any p v l base n k hk hl w hw hb

theorem or_i32 (x b : Nat) (i : Nat) (h : x < 2 ^ i) (hb : 2 ^ i * b + x < 2147483648) : bits .or .i32 ((2 ^ i * b : Nat) : Int) (x : Int) = ((2 ^ i * b + x : Nat) : Int) := by
  have h1 : (BitVec.ofInt 32 ((2 ^ i * b : Nat) : Int)).toNat = 2 ^ i * b := by
    rw [BitVec.ofInt_natCast, BitVec.toNat_ofNat]; exact Nat.mod_eq_of_lt (by omega)
  have h2 : (BitVec.ofInt 32 (x : Int)).toNat = x := by
    rw [BitVec.ofInt_natCast, BitVec.toNat_ofNat]; exact Nat.mod_eq_of_lt (by omega)
  show IntKind.i32.wrap ((BitVec.ofInt 32 ((2 ^ i * b : Nat) : Int) ||| BitVec.ofInt 32 (x : Int)).toNat : Int) = _
  rw [BitVec.toNat_or, h1, h2, ← Nat.two_pow_add_eq_or_of_lt h, IntKind.wrap_i32]
  omega

theorem or_d800 (x : Int) (h0 : 0 ≤ x) (h : x < 1024) : bits .or .i32 55296 x = 55296 + x := by
  obtain ⟨n, rfl⟩ := Int.eq_ofNat_of_zero_le h0
  have := or_i32 n 54 10 (by omega) (by omega)
  simpa using this
theorem or_dc00 (x : Int) (h0 : 0 ≤ x) (h : x < 1024) : bits .or .i32 56320 x = 56320 + x := by
  obtain ⟨n, rfl⟩ := Int.eq_ofNat_of_zero_le h0
  have := or_i32 n 55 10 (by omega) (by omega)
  simpa using this

theorem and_1023 (x : Int) (h0 : 0 ≤ x) (h : x < 2147483648) : bits .and .i32 x 1023 = x % 1024 := by
  obtain ⟨n, rfl⟩ := Int.eq_ofNat_of_zero_le h0
  have h1 : (BitVec.ofInt 32 ((n : Nat) : Int)).toNat = n := by
    rw [BitVec.ofInt_natCast, BitVec.toNat_ofNat]; exact Nat.mod_eq_of_lt (by omega)
  have h2 : (BitVec.ofInt 32 (1023 : Int)).toNat = 2 ^ 10 - 1 := by decide
  show IntKind.i32.wrap ((BitVec.ofInt 32 ((n : Nat) : Int) &&& BitVec.ofInt 32 (1023 : Int)).toNat : Int) = _
  rw [BitVec.toNat_and, h1, h2, Nat.and_two_pow_sub_one_eq_mod, IntKind.wrap_i32]
  omega

/-- What holds at the head of a round over a string: what is gathered, and what the rest gives. -/
def UAt (s : ByteArray) (pos : Nat) (acc : List Nat) : Prop := ∃ b, s.size ≤ pos + b ∧ acc ++ ucs (runes s b pos) = ucs (runesOf s) ∧ acc.length ≤ 4 * pos

theorem UAt.start (s : ByteArray) : UAt s 0 [] := ⟨s.size, by omega, rfl, by simp⟩
theorem UAt.done {s : ByteArray} {pos : Nat} {acc : List Nat} (h : UAt s pos acc) (hp : ¬ pos < s.size) : acc = ucs (runesOf s) := by
  obtain ⟨b, _, h2, _⟩ := h
  rw [← h2, runes_end s b pos hp]
  simp [ucs, units]
theorem UAt.next {s : ByteArray} {pos : Nat} {acc : List Nat} (h : UAt s pos acc) (hp : pos < s.size) (add : List Nat) (ha : add = (u16 (Utf8.decode s pos).1).flatMap le16) : UAt s (pos + (Utf8.decode s pos).2) (acc ++ add) := by
  obtain ⟨b, h1, h2, h3⟩ := h
  have hw := width_pos s pos hp
  subst ha
  have hl : ((u16 (Utf8.decode s pos).1).flatMap le16).length ≤ 4 := by
    unfold u16; split <;> simp [le16]
  cases b with
  | zero => omega
  | succ b =>
    refine ⟨b, by omega, ?_, ?_⟩
    · rw [← h2, runes, if_pos hp, List.append_assoc]
      simp [ucs, units]
    · rw [List.length_append]; omega

theorem leB_le16 (u : Nat) : leB u 2 = le16 u := by
  simp [leB, List.range_succ, le16]

theorem add_small {r : Nat} (h : ¬ (65536 : Int) ≤ r) : leB r 2 = (u16 r).flatMap le16 := by
  rw [u16, if_pos (by omega), leB_le16]; simp
theorem add_big {r : Nat} (h : (65536 : Int) ≤ r) : leB (55296 + (r - 65536) / 1024) 2 ++ leB (56320 + (r - 65536) % 1024) 2 = (u16 r).flatMap le16 := by
  rw [u16, if_neg (by omega), leB_le16, leB_le16]; simp

/-- A row of cells is no iterator. -/
theorem Row.ne_iter {base : Nat} {w : World} {v : Value} {l : List Nat} (h : Row base w v l) {k : Nat} {s : ByteArray} {pos : Nat} (hk : w.heap[k]? = some (.stringIter s pos)) : v.ownBlock ≠ some k := by
  intro e
  rcases h.2 with ⟨rfl, _⟩ | ⟨g, cap, cur, rfl, _, hg, _⟩
  · simp [Value.ownBlock] at e
  · simp [Value.ownBlock] at e
    subst e
    rw [hk] at hg
    cases hg
theorem cell_ne_iter {w : World} {p : Nat} {v : Value} (h : w.cell? ⟨p, 0, none⟩ = some v) {k : Nat} {s : ByteArray} {pos : Nat} (hk : w.heap[k]? = some (.stringIter s pos)) : p ≠ k := by
  rintro rfl
  simp [World.cell?, hk] at h

theorem Wr.iterAt {w : World} {base p : Nat} {v : Value} {l : List Nat} (h : Wr w base p v l) {k : Nat} {s : ByteArray} {pos : Nat} (hk : w.heap[k]? = some (.stringIter s pos)) (pos' : Nat) : Wr (w.iterAt k s pos') base p v l :=
  h.kept ((Kept.refl w (fun b => b = k)).iterAt (.inl rfl) s pos') (fun e => cell_ne_iter h.cell hk e) (fun b hb e => h.row.ne_iter hk (by rw [hb, e]))

/-- The iterator stands as it stood behind a writer's step. -/
theorem Wr.iter {w w' : World} {base p : Nat} {v : Value} {l : List Nat} (h : Wr w base p v l) {k : Nat} {s : ByteArray} {pos : Nat} (hk : w.heap[k]? = some (.stringIter s pos)) (hK : Kept w w' (WrS p v)) : w'.heap[k]? = some (.stringIter s pos) := by
  have hlt : k < w.heap.size := (Array.getElem?_eq_some_iff.1 hk).1
  refine (hK.block k hlt ?_).trans hk
  rintro (e | e)
  · exact cell_ne_iter h.cell hk e.symm
  · exact h.row.ne_iter hk e

/-- A writer's step turns nothing that was there when the call began. -/
theorem Kept.writer {a w w' : World} {p : Nat} {v : Value} {l : List Nat} (h : Fresh a w) (hw : Wr w a.heap.size p v l) (hp : a.heap.size ≤ p) (hK : Kept w w' (WrS p v)) : Fresh a w' :=
  h.trans hK (fun k hk hs => by
    rcases hs with rfl | hs
    · omega
    · have := (hw.row.block k hs).1
      omega)

set_option maxRecDepth 100000 in
theorem ucs2_any (s : ByteArray) (hs : s.size ≤ 4294967296) (w : World) :
    Calls Tryz.prog 25 #[.string s] w fun e w' => ∃ v, e = .returned v ∧ Row w.heap.size w' v (ucs (runesOf s)) ∧ Fresh w w' := by
  go_enter Tryz.func25, Tryz.ntmps25
  go_wp2
  go_loopw [5] (fun _ wr => ∃ (pos : Nat) (v : Value) (acc : List Nat), UAt s pos acc ∧ wr.heap[w.heap.size + 1 + 1]? = some (.stringIter s pos) ∧ Wr wr w.heap.size (w.heap.size + 1) v acc ∧ Fresh w wr) (fun _ wr => s.size - wr.iterPos (w.heap.size + 1 + 1))
  case atStart =>
    refine ⟨0, .slice (some ⟨w.heap.size, 0, none⟩) 0 0, [], UAt.start s, ?_, ?_, ?_⟩
    · have := World.iter_heap ((w.alloc (.cells #[] 5)).alloc (.cells #[.slice (some ⟨w.heap.size, 0, none⟩) 0 0] 68)) s 0
      simpa using this
    · exact (Wr.new w 68).fresh ((Kept.refl _ _).alloc _)
    · exact (((Kept.refl _ _).alloc _).alloc _).alloc _
  case round =>
    obtain ⟨pos, v, acc, hU, hit, hW, hF⟩ := hrel
    have hsz := hF.size
    by_cases hp : pos < s.size
    · have hnx : ∀ ty, (Instr.next (.pointer (some ⟨w.heap.size + 1 + 1, 0, none⟩)) true ty).run Tryz.prog wr = _ := fun ty => Lib.run_next_any_at wr (w.heap.size + 1 + 1) s pos ty hit hp
      have hg := decode_good s pos
      unfold good at hg
      have hal := hU.choose_spec.2.2
      have hWi := hW.iterAt hit (pos + (Utf8.decode s pos).2)
      have hFi : Fresh w (wr.iterAt (w.heap.size + 1 + 1) s (pos + (Utf8.decode s pos).2)) := hF.iterAt (.inr (by omega)) s _
      have hiti := Lib.iterAt_heap wr (w.heap.size + 1 + 1) s pos (pos + (Utf8.decode s pos).2) hit
      by_cases hbig : (65536 : Int) ≤ (Utf8.decode s pos).1
      · have HN := Go.Lib.hid (hU.next hp _ (add_big hbig))
        have HO := Go.Lib.hid (or_d800 (((Utf8.decode s pos).1 - 65536) / 1024) (by omega) (by omega))
        have HA := Go.Lib.hid (and_1023 ((Utf8.decode s pos).1 - 65536) (by omega) (by omega))
        have HP := Go.Lib.hid (or_dc00 (((Utf8.decode s pos).1 - 65536) % 1024) (by omega) (by omega))
        go_wp2_with (fail)
        refine (put_at (55296 + ((Utf8.decode s pos).1 - 65536) / 1024) 2 (by rw [HO.out, IntKind.wrap_u64]; omega) rfl _ v acc w.heap.size (by decide) (by omega) _ hWi hFi.size).mono ?_
        rintro e w1 ⟨rfl, v1, hW1, hK1, hM1⟩
        have hF1 := hFi.writer hWi (by omega) hK1
        have hit1 := hWi.iter hiti hK1
        have hl1 : (acc ++ leB (55296 + ((Utf8.decode s pos).1 - 65536) / 1024) 2).length ≤ 140737488350000 := by rw [List.length_append, leB_length]; omega
        go_wp2_with (fail)
        refine (put_at (56320 + ((Utf8.decode s pos).1 - 65536) % 1024) 2 (by rw [HA.out, HP.out, IntKind.wrap_u64]; omega) rfl _ v1 _ w.heap.size (by decide) hl1 _ hW1 hF1.size).mono ?_
        rintro e w2 ⟨rfl, v2, hW2, hK2, hM2⟩
        have hF2 := hF1.writer hW1 (by omega) hK2
        have hit2 := hW1.iter hit1 hK2
        go_wp2
        go_roundw
        case rel => exact ⟨_, v2, _, by rw [List.append_assoc]; exact HN.out, hit2, hW2, hF2⟩
        case measure =>
          rw [iterPos_of hit2, iterPos_of hit]
          have := width_pos s pos hp
          omega
      · have HN := Go.Lib.hid (hU.next hp _ (add_small hbig))
        go_wp2_with (fail)
        refine (put_at (Utf8.decode s pos).1 2 rfl rfl _ v acc w.heap.size (by decide) (by omega) _ hWi hFi.size).mono ?_
        rintro e w1 ⟨rfl, v1, hW1, hK1, hM1⟩
        have hF1 := hFi.writer hWi (by omega) hK1
        have hit1 := hWi.iter hiti hK1
        go_wp2
        go_roundw
        case rel => exact ⟨_, v1, _, HN.out, hit1, hW1, hF1⟩
        case measure =>
          rw [iterPos_of hit1, iterPos_of hit]
          have := width_pos s pos hp
          omega
    · have hnx : ∀ ty, (Instr.next (.pointer (some ⟨w.heap.size + 1 + 1, 0, none⟩)) true ty).run Tryz.prog wr = _ := fun ty => Lib.run_next_end_at wr (w.heap.size + 1 + 1) s pos ty hit hp
      have HD := Go.Lib.hid (hU.done hp)
      have hcu := hW.cell
      go_wp2
      go_ret
      exact ⟨v, rfl, HD.out ▸ hW.row, hF⟩
end Go.Proofs.YthmopakaikhjlaaGreatDoor
