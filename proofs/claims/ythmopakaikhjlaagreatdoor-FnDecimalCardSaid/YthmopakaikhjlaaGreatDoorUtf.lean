/- The texts of a string as code points, as units of UTF-16 and as bytes: plain facts, no program in sight. -/
import Derived.Laws.IdiomStrings
import Derived.Laws.RangeAny
import Derived.Laws.Strings
namespace Go.Proofs.YthmopakaikhjlaaGreatDoor

/-- The code points of a string from a place on, by at most some rounds. -/
def runes (s : ByteArray) : Nat → Nat → List Nat
  | 0, _ => []
  | f + 1, pos => if pos < s.size then (Utf8.decode s pos).1 :: runes s f (pos + (Utf8.decode s pos).2) else []

/-- A code point that is valid. -/
def good (r : Nat) : Prop := r < 0xD800 ∨ (0xE000 ≤ r ∧ r ≤ 0x10FFFF)

theorem width_pos (s : ByteArray) (pos : Nat) (h : pos < s.size) : 1 ≤ (Utf8.decode s pos).2 := by
  by_cases ha : (s[pos]'h).toNat < 128
  · rw [decode_ascii s pos h ha]
    exact Nat.le_refl _
  · exact (decode_high s pos h (by omega)).2

theorem decode_good (s : ByteArray) (pos : Nat) : good (Utf8.decode s pos).1 := by
  unfold Utf8.decode good
  simp only
  repeat' split
  all_goals simp_all [Utf8.runeError, Utf8.valid]
  all_goals omega

theorem runes_good (s : ByteArray) : ∀ (f pos : Nat), ∀ r ∈ runes s f pos, good r
  | 0, _, r, h => by simp [runes] at h
  | f + 1, pos, r, h => by
    unfold runes at h
    split at h
    · rcases List.mem_cons.1 h with rfl | h
      · exact decode_good s pos
      · exact runes_good s f _ r h
    · simp at h

theorem runes_end (s : ByteArray) (f pos : Nat) (h : ¬ pos < s.size) : runes s f pos = [] := by
  cases f with
  | zero => rfl
  | succ f => simp [runes, h]

/-- More rounds than are left turn nothing. -/
theorem runes_more (s : ByteArray) : ∀ (f g pos : Nat), s.size ≤ pos + f → s.size ≤ pos + g → runes s f pos = runes s g pos
  | 0, g, pos, h, _ => by rw [runes_end s g pos (by omega)]; rfl
  | f + 1, 0, pos, _, h => by rw [runes_end s (f + 1) pos (by omega)]; rfl
  | f + 1, g + 1, pos, h1, h2 => by
    unfold runes
    by_cases hp : pos < s.size
    · have hw := width_pos s pos hp
      simp only [hp, if_true]
      rw [runes_more s f g _ (by omega) (by omega)]
    · simp [hp]

theorem runes_length (s : ByteArray) : ∀ (f pos : Nat), (runes s f pos).length ≤ f
  | 0, _ => by simp [runes]
  | f + 1, pos => by
    unfold runes
    split
    · have := runes_length s f (pos + (Utf8.decode s pos).2)
      simp only [List.length_cons]; omega
    · simp

/-- The model's own conversion lays these code points. -/
theorem runesFrom_eq (s : ByteArray) : ∀ (f pos : Nat) (acc : Array Value), Conv.runesFrom s f pos acc = acc ++ ((runes s f pos).map (fun r : Nat => Value.int .i32 (r : Int))).toArray
  | 0, _, acc => by simp [Conv.runesFrom, runes]
  | f + 1, pos, acc => by
    unfold Conv.runesFrom runes
    split
    · show Conv.runesFrom s f (pos + (Utf8.decode s pos).2) (acc.push (Value.int .i32 (Int.ofNat (Utf8.decode s pos).1))) = _
      rw [runesFrom_eq s f]
      simp
    · simp

/-- The code points of a whole string. -/
def runesOf (s : ByteArray) : List Nat := runes s s.size 0

/-- A code point's units. -/
def u16 (r : Nat) : List Nat := if r < 0x10000 then [r] else [0xd800 + (r - 0x10000) / 1024, 0xdc00 + (r - 0x10000) % 1024]

def units (l : List Nat) : List Nat := l.flatMap u16

/-- A unit's bytes. -/
def le16 (u : Nat) : List Nat := [u % 256, u / 256 % 256]

def ucs (l : List Nat) : List Nat := (units l).flatMap le16

theorem u16_lt {r : Nat} (h : good r) : ∀ u ∈ u16 r, u < 65536 := by
  intro u hu
  unfold u16 at hu
  unfold good at h
  split at hu
  · simp at hu; omega
  · simp at hu; omega

theorem units_lt {l : List Nat} (h : ∀ r ∈ l, good r) : ∀ u ∈ units l, u < 65536 := by
  intro u hu
  obtain ⟨r, hr, hu⟩ := List.mem_flatMap.1 hu
  exact u16_lt (h r hr) u hu

theorem ucs_lt (l : List Nat) : ∀ b ∈ ucs l, b < 256 := by
  intro b hb
  obtain ⟨u, _, hb⟩ := List.mem_flatMap.1 hb
  simp [le16] at hb
  omega

theorem units_append (a b : List Nat) : units (a ++ b) = units a ++ units b := by simp [units]
theorem ucs_append (a b : List Nat) : ucs (a ++ b) = ucs a ++ ucs b := by simp [ucs, units]
theorem ucs_length (l : List Nat) : (ucs l).length = 2 * (units l).length := by
  unfold ucs
  induction units l with
  | nil => rfl
  | cons u us ih => simp only [List.flatMap_cons, List.length_append, List.length_cons, ih]; simp [le16]; omega
theorem units_length (l : List Nat) : l.length ≤ (units l).length ∧ (units l).length ≤ 2 * l.length := by
  unfold units
  induction l with
  | nil => simp
  | cons r l ih =>
    simp only [List.flatMap_cons, List.length_append, List.length_cons]
    have : 1 ≤ (u16 r).length ∧ (u16 r).length ≤ 2 := by unfold u16; split <;> simp
    omega

/-- A byte's halves exchanged, and turned by a5. -/
def mangle (b : Nat) : Nat := ((b * 16) % 256 ||| b / 16) ^^^ 0xa5


/-- Units back to code points, as Go's package utf16 reads them. -/
def back : List Nat → List Nat
  | [] => []
  | [u] => if u < 0xd800 ∨ 0xe000 ≤ u then [u] else [0xfffd]
  | u :: v :: us =>
    if u < 0xd800 ∨ 0xe000 ≤ u then u :: back (v :: us)
    else if u < 0xdc00 ∧ 0xdc00 ≤ v ∧ v < 0xe000 then ((u - 0xd800) * 1024 + (v - 0xdc00) + 0x10000) :: back us
    else 0xfffd :: back (v :: us)

theorem back_cons_one {u : Nat} (h : u < 0xd800 ∨ 0xe000 ≤ u) (us : List Nat) : back (u :: us) = u :: back us := by
  cases us with
  | nil => simp [back, h]
  | cons v us => rw [back, if_pos h]

theorem back_units : ∀ (l : List Nat), (∀ r ∈ l, good r) → back (units l) = l
  | [], _ => rfl
  | r :: l, h => by
    have hr : good r := h r (by simp)
    have ih := back_units l (fun r hr => h r (by simp [hr]))
    have e : units (r :: l) = u16 r ++ units l := by simp [units]
    rw [e]
    unfold u16
    unfold good at hr
    split
    · rw [List.singleton_append, back_cons_one (by omega), ih]
    · have h1 : ¬ (0xd800 + (r - 0x10000) / 1024 < 0xd800 ∨ 0xe000 ≤ 0xd800 + (r - 0x10000) / 1024) := by omega
      have h2 : 0xd800 + (r - 0x10000) / 1024 < 0xdc00 ∧ 0xdc00 ≤ 0xdc00 + (r - 0x10000) % 1024 ∧ 0xdc00 + (r - 0x10000) % 1024 < 0xe000 := by omega
      show back ((0xd800 + (r - 0x10000) / 1024) :: (0xdc00 + (r - 0x10000) % 1024) :: units l) = _
      rw [back, if_neg h1, if_pos h2, ih]
      congr 1
      omega

/-- The bytes of code points. -/
def enc (l : List Nat) : List UInt8 := l.flatMap fun r : Nat => (Utf8.encode (r : Int)).data.toList

/-- A place at which the text is not broken: a code point that is U+FFFD stands there by its three bytes. -/
def fine (s : ByteArray) (pos : Nat) : Prop :=
  (Utf8.decode s pos).1 ≠ 0xfffd ∨ (pos + 3 ≤ s.size ∧ s.get! pos = 0xef ∧ s.get! (pos + 1) = 0xbf ∧ s.get! (pos + 2) = 0xbd)

/-- The text is not broken from a place on. -/
def sound (s : ByteArray) : Nat → Nat → Prop
  | 0, _ => True
  | f + 1, pos => pos < s.size → fine s pos ∧ sound s f (pos + (Utf8.decode s pos).2)


theorem drop_get (s : ByteArray) (i : Nat) (h : i < s.size) : s.data.toList.drop i = s.get! i :: s.data.toList.drop (i + 1) := by
  have hl : i < s.data.toList.length := by simpa using h
  rw [List.drop_eq_getElem_cons hl]
  congr 1
  have hd : i < s.data.size := h
  show s.data[i] = s.data[i]!
  exact (getElem!_pos s.data i hd).symm

theorem ofNat_eq (b : UInt8) (n : Nat) (h : n % 256 = b.toNat) : UInt8.ofNat n = b := by
  apply UInt8.toNat_inj.1
  simp [h]

theorem dec_enc' (s : ByteArray) (pos : Nat) (h : pos < s.size) (hf : fine s pos) (x0 x1 x2 x3 : UInt8) (hx0 : s.get! pos = x0) (hx1 : s.get! (pos + 1) = x1) (hx2 : s.get! (pos + 2) = x2) (hx3 : s.get! (pos + 3) = x3) :
    s.data.toList.drop pos = (Utf8.encode ((Utf8.decode s pos).1 : Int)).data.toList ++ s.data.toList.drop (pos + (Utf8.decode s pos).2) := by
  have b0 : x0.toNat < 256 := x0.toNat_lt
  have b1 : x1.toNat < 256 := x1.toNat_lt
  have b2 : x2.toNat < 256 := x2.toNat_lt
  have b3 : x3.toNat < 256 := x3.toNat_lt
  have d0 := drop_get s pos h
  have d1 := drop_get s (pos + 1)
  have d2 := drop_get s (pos + 2)
  have d3 := drop_get s (pos + 3)
  unfold fine at hf
  generalize hd : Utf8.decode s pos = d at hf
  unfold Utf8.decode at hd
  simp only [Nat.add_zero] at hd
  rw [hx0] at d0
  rw [hx1] at d1
  rw [hx2] at d2
  rw [hx3] at d3
  simp only [hx0, hx1, hx2] at hf
  simp only [hx0, hx1, hx2, hx3] at hd
  clear hx0 hx1 hx2 hx3
  by_cases c1 : x0.toNat < 0x80
  · rw [if_pos c1] at hd
    subst hd
    rw [d0]
    have hv : Utf8.valid (x0.toNat : Int) = true := by simp [Utf8.valid]; omega
    simp only [Utf8.encode, hv, if_true, Int.toNat_natCast]
    rw [if_pos c1, ofNat_eq x0 x0.toNat (by omega)]
    rfl
  · rw [if_neg c1] at hd
    by_cases c2 : x0.toNat / 32 = 6 ∧ pos + 1 < s.size ∧ x1.toNat / 64 = 2
    · rw [if_pos (by simpa using c2)] at hd
      obtain ⟨e0, e1, e2⟩ := c2
      rw [d0, d1 e1]
      by_cases c3 : (x0.toNat % 32) * 64 + x1.toNat % 64 ≥ 0x80
      · rw [if_pos c3] at hd
        subst hd
        have hv : Utf8.valid (((x0.toNat % 32) * 64 + x1.toNat % 64 : Nat) : Int) = true := by simp [Utf8.valid]; omega
        simp only [Utf8.encode, hv, if_true, Int.toNat_natCast]
        rw [if_neg (by omega), if_pos (by omega), ofNat_eq x0 _ (by omega), ofNat_eq x1 _ (by omega)]
        rfl
      · exfalso
        rw [if_neg c3] at hd
        subst hd
        rcases hf with hf | ⟨f1, f2, f3, f4⟩
        · exact hf rfl
        · subst f2; exact absurd e0 (by decide)
    · rw [if_neg (by simpa using c2)] at hd
      by_cases c4 : x0.toNat / 16 = 14 ∧ (pos + 1 < s.size ∧ x1.toNat / 64 = 2) ∧ pos + 2 < s.size ∧ x2.toNat / 64 = 2
      · rw [if_pos (by simp only [Bool.and_eq_true, beq_iff_eq, decide_eq_true_eq]; exact ⟨⟨c4.1, c4.2.1⟩, c4.2.2⟩)] at hd
        obtain ⟨e0, ⟨e1, e2⟩, e3, e4⟩ := c4
        rw [d0, d1 e1, d2 e3]
        by_cases c5 : (x0.toNat % 16) * 4096 + (x1.toNat % 64) * 64 + x2.toNat % 64 ≥ 0x800 ∧ Utf8.valid (((x0.toNat % 16) * 4096 + (x1.toNat % 64) * 64 + x2.toNat % 64 : Nat) : Int) = true
        · rw [if_pos (by simp only [Bool.and_eq_true, decide_eq_true_eq]; exact c5)] at hd
          subst hd
          simp only [Utf8.encode, c5.2, if_true, Int.toNat_natCast]
          rw [if_neg (by omega), if_neg (by omega), if_pos (by omega), ofNat_eq x0 _ (by omega), ofNat_eq x1 _ (by omega), ofNat_eq x2 _ (by omega)]
          rfl
        · exfalso
          rw [if_neg (by simp only [Bool.and_eq_true, decide_eq_true_eq]; exact c5)] at hd
          subst hd
          rcases hf with hf | ⟨f1, f2, f3, f4⟩
          · exact hf rfl
          · subst f2; subst f3; subst f4; exact c5 (by decide)
      · rw [if_neg (by simp only [Bool.and_eq_true, beq_iff_eq, decide_eq_true_eq]; exact fun h => c4 ⟨h.1.1, h.1.2, h.2⟩)] at hd
        by_cases c6 : x0.toNat / 8 = 30 ∧ (pos + 1 < s.size ∧ x1.toNat / 64 = 2) ∧ (pos + 2 < s.size ∧ x2.toNat / 64 = 2) ∧ (pos + 3 < s.size ∧ x3.toNat / 64 = 2)
        · rw [if_pos (by simp only [Bool.and_eq_true, beq_iff_eq, decide_eq_true_eq]; exact ⟨⟨⟨c6.1, c6.2.1⟩, c6.2.2.1⟩, c6.2.2.2⟩)] at hd
          obtain ⟨e0, ⟨e1, e2⟩, ⟨e3, e4⟩, e5, e6⟩ := c6
          rw [d0, d1 e1, d2 e3, d3 e5]
          by_cases c7 : (x0.toNat % 8) * 262144 + (x1.toNat % 64) * 4096 + (x2.toNat % 64) * 64 + x3.toNat % 64 ≥ 0x10000 ∧ Utf8.valid (((x0.toNat % 8) * 262144 + (x1.toNat % 64) * 4096 + (x2.toNat % 64) * 64 + x3.toNat % 64 : Nat) : Int) = true
          · rw [if_pos (by simp only [Bool.and_eq_true, decide_eq_true_eq]; exact c7)] at hd
            subst hd
            simp only [Utf8.encode, c7.2, if_true, Int.toNat_natCast]
            rw [if_neg (by omega), if_neg (by omega), if_neg (by omega), ofNat_eq x0 _ (by omega), ofNat_eq x1 _ (by omega), ofNat_eq x2 _ (by omega), ofNat_eq x3 _ (by omega)]
            rfl
          · exfalso
            rw [if_neg (by simp only [Bool.and_eq_true, decide_eq_true_eq]; exact c7)] at hd
            subst hd
            rcases hf with hf | ⟨f1, f2, f3, f4⟩
            · exact hf rfl
            · subst f2; exact absurd e0 (by decide)
        · rw [if_neg (by simp only [Bool.and_eq_true, beq_iff_eq, decide_eq_true_eq]; exact fun h => c6 ⟨h.1.1.1, h.1.1.2, h.1.2, h.2⟩)] at hd
          exfalso
          subst hd
          rcases hf with hf | ⟨f1, f2, f3, f4⟩
          · exact hf rfl
          · subst f2; subst f3; subst f4; exact c4 ⟨by decide, ⟨by omega, by decide⟩, by omega, by decide⟩

theorem dec_enc (s : ByteArray) (pos : Nat) (h : pos < s.size) (hf : fine s pos) :
    s.data.toList.drop pos = (Utf8.encode ((Utf8.decode s pos).1 : Int)).data.toList ++ s.data.toList.drop (pos + (Utf8.decode s pos).2) :=
  dec_enc' s pos h hf _ _ _ _ rfl rfl rfl rfl

theorem enc_runes (s : ByteArray) : ∀ (f pos : Nat), s.size ≤ pos + f → sound s f pos → enc (runes s f pos) = s.data.toList.drop pos
  | 0, pos, h, _ => by
    rw [List.drop_of_length_le (by simpa using h)]
    rfl
  | f + 1, pos, h, hs => by
    unfold runes
    by_cases hp : pos < s.size
    · obtain ⟨h1, h2⟩ := hs hp
      have hw := width_pos s pos hp
      rw [if_pos hp, dec_enc s pos hp h1, ← enc_runes s f _ (by omega) h2]
      simp [enc]
    · rw [if_neg hp, List.drop_of_length_le (by simpa using hp)]
      rfl


/-- A place at which the text is broken, as the reference asks it. -/
def bad (s : ByteArray) (pos : Nat) : Bool := (Utf8.decode s pos).1 == 65533 && (decide (s.size < pos + 3) || !((s.extract pos (pos + 3)).toList == [239, 191, 189]))

def okFrom (s : ByteArray) : Nat → Nat → Bool
  | 0, _ => true
  | f + 1, pos => if pos < s.size then !(bad s pos) && okFrom s f (pos + (Utf8.decode s pos).2) else true

/-- The reference's word 'Text'. -/
def textB (s : ByteArray) : Bool := okFrom s s.size 0 && decide ((runesOf s).length ≤ 60)

theorem okFrom_end (s : ByteArray) (f pos : Nat) (h : ¬ pos < s.size) : okFrom s f pos = true := by
  cases f with
  | zero => rfl
  | succ f => simp [okFrom, h]

theorem get_of_drop (s : ByteArray) (i : Nat) (x : UInt8) (l : List UInt8) (h : s.data.toList.drop i = x :: l) : i < s.size ∧ s.get! i = x ∧ s.data.toList.drop (i + 1) = l := by
  have hi : i < s.size := by
    rcases Nat.lt_or_ge i s.size with hi | hi
    · exact hi
    · rw [List.drop_of_length_le (by simpa using hi)] at h
      cases h
  rw [drop_get s i hi] at h
  injection h with h1 h2
  exact ⟨hi, h1, h2⟩

theorem fine_of (s : ByteArray) (pos : Nat) (h : bad s pos = false) : fine s pos := by
  unfold bad at h
  unfold fine
  by_cases h1 : (Utf8.decode s pos).1 = 65533
  · right
    simp [h1] at h
    obtain ⟨h2, h3⟩ := h
    refine ⟨h2, ?_⟩
    rw [ByteArray.toList_eq] at h3
    have h4 : (s.data.toList.drop pos).take 3 = [239, 191, 189] := by
      rw [← h3, ByteArray.data_extract]
      simp [List.take_drop, List.extract]
    have h5 : s.data.toList.drop pos = 239 :: 191 :: 189 :: (s.data.toList.drop pos).drop 3 := by
      conv => lhs; rw [← List.take_append_drop 3 (s.data.toList.drop pos), h4]
      rfl
    obtain ⟨_, e1, h6⟩ := get_of_drop s pos _ _ h5
    obtain ⟨_, e2, h7⟩ := get_of_drop s (pos + 1) _ _ h6
    obtain ⟨_, e3, _⟩ := get_of_drop s (pos + 2) _ _ h7
    exact ⟨e1, e2, e3⟩
  · exact .inl h1

theorem sound_of (s : ByteArray) : ∀ (f pos : Nat), okFrom s f pos = true → sound s f pos
  | 0, _, _ => trivial
  | f + 1, pos, h => by
    intro hp
    unfold okFrom at h
    rw [if_pos hp] at h
    simp only [Bool.and_eq_true, Bool.not_eq_true'] at h
    exact ⟨fine_of s pos h.1, sound_of s f _ h.2⟩

/-- The way back: a text that is not broken is the bytes of its code points. -/
theorem text_back (s : ByteArray) (h : textB s = true) : enc (runesOf s) = s.data.toList := by
  unfold textB at h
  simp only [Bool.and_eq_true] at h
  exact (enc_runes s s.size 0 (by omega) (sound_of s _ _ h.1)).trans (List.drop_zero ..)

theorem text_few (s : ByteArray) (h : textB s = true) : (runesOf s).length ≤ 60 := by
  unfold textB at h
  simp only [Bool.and_eq_true, decide_eq_true_eq] at h
  exact h.2

end Go.Proofs.YthmopakaikhjlaaGreatDoor
