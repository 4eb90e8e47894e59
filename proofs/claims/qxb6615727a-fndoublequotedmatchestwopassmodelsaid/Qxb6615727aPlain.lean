/-
  Seat b6615727a: THE PLAIN SIDE: no Go in sight: what restBlank, documentStart and their helpers answer, on lists of bytes.
-/
namespace Go.Proofs.Qxb6615727a

/-- The bytes of s from a up to b. -/
def seg (s : ByteArray) (a b : Nat) : List UInt8 := (s.data.toList.take b).drop a

theorem seg_nil (s : ByteArray) (b : Nat) : seg s b b = [] := by
  unfold seg; apply List.drop_eq_nil_of_le; simp [List.length_take]; omega

theorem seg_cons (s : ByteArray) (a b : Nat) (h : a < b) (hb : b ≤ s.size) (ha : a < s.size) : seg s a b = s[a] :: seg s (a + 1) b := by
  unfold seg
  have hl : a < (s.data.toList.take b).length := by rw [List.length_take]; have : s.data.toList.length = s.size := rfl; omega
  rw [List.drop_eq_getElem_cons hl]
  congr 1
  rw [List.getElem_take]; rfl

/-- The bytes behind the spaces at the head. -/
def past (l : List UInt8) : List UInt8 := l.dropWhile (· == 32)

/-- restBlank's answer. -/
def blank (l : List UInt8) : Bool := (past l).isEmpty || (decide ((past l).length < l.length) && (past l).head? == some 35)

theorem past_cons_space (l : List UInt8) : past (32 :: l) = past l := by simp [past]
theorem past_cons_other (c : UInt8) (l : List UInt8) (h : (c == 32) = false) : past (c :: l) = c :: l := by simp [past, h]
theorem past_nil : past [] = [] := rfl
theorem past_le (l : List UInt8) : (past l).length ≤ l.length := by
  induction l with
  | nil => simp [past]
  | cons c l ih =>
    by_cases h : (c == 32) = true
    · have : c = 32 := by simpa using h
      subst this; rw [past_cons_space]; simp; omega
    · rw [past_cons_other c l (by simpa using h)]; exact Nat.le_refl _
theorem past_eq (l : List UInt8) (h : ¬ (past l).length < l.length) : past l = l := by
  cases l with
  | nil => rfl
  | cons c l =>
    by_cases hc : (c == 32) = true
    · have e : c = 32 := by simpa using hc
      subst e
      rw [past_cons_space] at h
      have := past_le l
      simp at h; omega
    · exact past_cons_other c l (by simpa using hc)

/-- behind a space: blank, or a comment. -/
def spaced (l : List UInt8) : Bool := (past l).isEmpty || (past l).head? == some 35

theorem blank_space (l : List UInt8) : blank (32 :: l) = spaced l := by
  have := past_le l
  have h : decide ((past l).length < (32 :: l).length) = true := by simp; omega
  unfold blank spaced; rw [past_cons_space, h]; simp
theorem blank_space2 (l : List UInt8) : blank (32 :: 32 :: l) = spaced l := by
  rw [blank_space]; unfold spaced; rw [past_cons_space]
theorem spaced_eq (l : List UInt8) : spaced l = (blank l || l.head? == some 35) := by
  by_cases h : (past l).length < l.length
  · unfold spaced blank
    simp only [h, decide_true, Bool.true_and]
    cases hp : (past l).isEmpty with
    | true => simp
    | false =>
      cases l with
      | nil => simp [past] at h
      | cons c l =>
        by_cases hc : (c == 32) = true
        · have e : c = 32 := by simpa using hc
          subst e; simp
        · rw [past_cons_other c l (by simpa using hc)] at h; exact absurd h (Nat.lt_irrefl _)
  · have e := past_eq l h
    unfold spaced blank
    rw [e]; simp

/-- nothing but spaces. -/
def spaces (l : List UInt8) : Bool := l.all (· == 32)
theorem past_spaces (l x : List UInt8) (h : spaces l = true) : past (l ++ x) = past x := by
  induction l with
  | nil => rfl
  | cons c l ih =>
    simp [spaces] at h
    obtain ⟨rfl, h2⟩ := h
    rw [List.cons_append, past_cons_space]; exact ih (by simpa [spaces] using h2)
theorem past_other (l x : List UInt8) (h : spaces l = false) : past (l ++ x) = past l ++ x ∧ ∃ c t, past l = c :: t := by
  induction l with
  | nil => simp [spaces] at h
  | cons c l ih =>
    by_cases hc : (c == 32) = true
    · have e : c = 32 := by simpa using hc
      subst e
      rw [List.cons_append, past_cons_space, past_cons_space]
      exact ih (by simpa [spaces] using h)
    · have hc' : (c == 32) = false := by simpa using hc
      rw [List.cons_append, past_cons_other c _ hc', past_cons_other c _ hc']
      exact ⟨rfl, c, l, rfl⟩
theorem blank_append_other (l x : List UInt8) (h : spaces l = false) : blank (l ++ x) = blank l := by
  obtain ⟨h1, c, t, h2⟩ := past_other l x h
  unfold blank
  rw [h1, h2]; simp
  congr 1
  rw [Bool.eq_iff_iff]; simp; omega
theorem blank_spaces (l : List UInt8) (h : spaces l = true) : blank l = true := by
  have := past_spaces l [] h
  simp [past_nil] at this
  simp [blank, this]
theorem blank_append_spaces (l x : List UInt8) (h : spaces l = true) (hl : l ≠ []) : blank (l ++ x) = blank (32 :: x) := by
  rw [blank_space]
  unfold blank spaced
  rw [past_spaces l x h]
  have h1 := past_le x
  have h2 : 0 < l.length := List.length_pos_iff.mpr hl
  have : decide ((past x).length < (l ++ x).length) = true := by simp; omega
  rw [this]; simp

theorem seg_ins (s : ByteArray) (a n m : Nat) (t : ByteArray) (ha : a ≤ n) (hn : n ≤ s.size) (hm : m = n + t.size) :
    seg (s.extract 0 a ++ t ++ s.extract a s.size) a m = t.data.toList ++ seg s a n ∧ (s.extract 0 a ++ t ++ s.extract a s.size).size = s.size + t.size := by
  have hsz : s.data.toList.length = s.size := rfl
  have htz : t.data.toList.length = t.size := rfl
  constructor
  · unfold seg
    simp only [ByteArray.data_append, ByteArray.data_extract, Array.toList_append, Array.toList_extract]
    have e1 : (List.extract s.data.toList 0 a) = s.data.toList.take a := by simp [List.extract]
    have e2 : (List.extract s.data.toList a s.size) = s.data.toList.drop a := by simp only [List.extract]; rw [List.take_of_length_le]; simp
    rw [e1, e2, List.append_assoc]
    have l1 : (s.data.toList.take a).length = a := by rw [List.length_take]; omega
    rw [List.drop_take, List.drop_left' l1, hm]
    rw [show n + t.size - a = t.data.toList.length + (n - a) from by omega, List.take_length_add_append, List.drop_take]
  · simp [ByteArray.size_append, ByteArray.size_extract]; omega
theorem byteEq (c d : UInt8) : ((c.toNat : Int) == (d.toNat : Int)) = (c == d) := by
  rw [Bool.eq_iff_iff]; simp only [beq_iff_eq]; rw [← UInt8.toNat_inj]; omega
theorem seg_length (s : ByteArray) (a b : Nat) (h : a ≤ b) (hb : b ≤ s.size) : (seg s a b).length = b - a := by
  unfold seg; simp only [List.length_drop, List.length_take]
  have : s.data.toList.length = s.size := rfl
  omega
theorem past_step (s : ByteArray) (k n : Nat) (h : k < n) (hn : n ≤ s.size) (hk : k < s.size) (e : ((s[k].toNat : Int) == 32) = true) : past (seg s k n) = past (seg s (k + 1) n) := by
  have e2 : (s[k] == (32 : UInt8)) = true := by rw [← byteEq]; exact e
  have e3 : s[k] = 32 := by simpa using e2
  rw [seg_cons s k n h hn hk, e3, past_cons_space]
theorem past_stop (s : ByteArray) (k n : Nat) (h : k < n) (hn : n ≤ s.size) (hk : k < s.size) (e : ((s[k].toNat : Int) == 32) = false) : past (seg s k n) = s[k] :: seg s (k + 1) n := by
  have e2 : (s[k] == (32 : UInt8)) = false := by rw [← byteEq]; exact e
  rw [seg_cons s k n h hn hk, past_cons_other _ _ e2]
theorem head_at (s : ByteArray) (a n : Nat) (h : a < n) (hn : n ≤ s.size) (hk : a < s.size) : ((seg s a n).head? == some 35) = ((s[a].toNat : Int) == 35) := by
  rw [seg_cons s a n h hn hk, show (35 : Int) = ((35 : UInt8).toNat : Int) from rfl, byteEq]; rfl
theorem spaced_at (s : ByteArray) (a n : Nat) (h : a < n) (hn : n ≤ s.size) (hk : a < s.size) : spaced (seg s a n) = (blank (seg s a n) || ((s[a].toNat : Int) == 35)) := by
  rw [spaced_eq, head_at s a n h hn hk]
theorem spaced_nil (s : ByteArray) (n : Nat) : spaced (seg s n n) = true ∧ blank (seg s n n) = true := by rw [seg_nil]; exact ⟨rfl, rfl⟩
theorem blank_stop (s : ByteArray) (a k n : Nat) (ha : a ≤ k) (h : k < n) (hn : n ≤ s.size) (hk : k < s.size) (e : ((s[k].toNat : Int) == 32) = false) (hp : past (seg s a n) = past (seg s k n)) :
    blank (seg s a n) = (decide (a < k) && ((s[k].toNat : Int) == 35)) := by
  unfold blank
  rw [hp, past_stop s k n h hn hk e, seg_length s a n (by omega) hn]
  have e3 : (some s[k] == some (35 : UInt8)) = ((s[k].toNat : Int) == 35) := by
    rw [show (35 : Int) = ((35 : UInt8).toNat : Int) from rfl, byteEq]; rfl
  simp only [List.isEmpty_cons, Bool.false_or, List.head?_cons, e3, List.length_cons, seg_length s (k + 1) n h hn]
  congr 1
  rw [Bool.eq_iff_iff]; simp; omega
theorem blank_end (s : ByteArray) (a n : Nat) (hp : past (seg s a n) = past (seg s n n)) : blank (seg s a n) = true := by
  unfold blank
  rw [hp, seg_nil]; rfl
theorem spaced_stop (s : ByteArray) (a k n : Nat) (h : k < n) (hn : n ≤ s.size) (hk : k < s.size) (e : ((s[k].toNat : Int) == 32) = false) (hp : past (seg s a n) = past (seg s k n)) :
    spaced (seg s a n) = ((s[k].toNat : Int) == 35) := by
  unfold spaced
  rw [hp, past_stop s k n h hn hk e]
  have e3 : (some s[k] == some (35 : UInt8)) = ((s[k].toNat : Int) == 35) := by
    rw [show (35 : Int) = ((35 : UInt8).toNat : Int) from rfl, byteEq]; rfl
  simp only [List.isEmpty_cons, Bool.false_or, List.head?_cons, e3]
theorem spaced_end (s : ByteArray) (a n : Nat) (hp : past (seg s a n) = past (seg s n n)) : spaced (seg s a n) = true := by
  unfold spaced
  rw [hp, seg_nil]; rfl

end Go.Proofs.Qxb6615727a
