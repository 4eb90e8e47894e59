/-
  Seat b6615727a: the plain side of doubleQuoted: one step of the reader, and the reader.
-/
import Derived.Test.Qxb6615727aPlainB
import Derived.Lib.RuneBytes
namespace Go.Proofs.Qxb6615727a

/-- A hexadecimal digit. -/
def hexd (c : UInt8) : Option Nat :=
  if 48 ≤ c.toNat ∧ c.toNat ≤ 57 then some (c.toNat - 48)
  else if 97 ≤ c.toNat ∧ c.toNat ≤ 102 then some (c.toNat - 97 + 10)
  else if 65 ≤ c.toNat ∧ c.toNat ≤ 70 then some (c.toNat - 65 + 10)
  else none
theorem hexd_lt (c : UInt8) (d : Nat) (h : hexd c = some d) : d < 16 := by
  unfold hexd at h
  split at h
  · simp at h; omega
  split at h
  · simp at h; omega
  split at h
  · simp at h; omega
  · simp at h

def hexGo : Nat → List UInt8 → Option Nat
  | acc, [] => some acc
  | acc, c :: cs => match hexd c with
    | some d => hexGo (acc * 16 + d) cs
    | none => none
theorem hexGo_lt : ∀ (l : List UInt8) (acc v : Nat), hexGo acc l = some v → v < (acc + 1) * 16 ^ l.length := by
  intro l
  induction l with
  | nil => intro acc v h; simp [hexGo] at h; simp; omega
  | cons c l ih =>
    intro acc v h
    unfold hexGo at h
    cases hd : hexd c with
    | none => rw [hd] at h; simp at h
    | some d =>
      rw [hd] at h
      have h1 := ih (acc * 16 + d) v h
      have h2 := hexd_lt c d hd
      have h3 : (acc * 16 + d + 1) * 16 ^ l.length ≤ ((acc + 1) * 16) * 16 ^ l.length := Nat.mul_le_mul_right _ (by omega)
      rw [List.length_cons, Nat.pow_succ, Nat.mul_comm (16 ^ l.length) 16, ← Nat.mul_assoc]
      omega
/-- four digits. -/
def hex4 (l : List UInt8) : Option Nat := if l.length = 4 then hexGo 0 l else none
theorem hex4_lt (l : List UInt8) (v : Nat) (h : hex4 l = some v) : v < 65536 := by
  unfold hex4 at h
  split at h
  · have h1 := hexGo_lt l 0 v h
    rename_i h2; rw [h2] at h1; simpa using h1
  · simp at h

def isSur (v : Nat) : Bool := decide (55296 ≤ v ∧ v < 57344)
def pairUp (v w : Nat) : Option Nat := if 55296 ≤ v ∧ v < 56320 ∧ 56320 ≤ w ∧ w < 57344 then some (65536 + (v - 55296) * 1024 + (w - 56320)) else none

/-- the surrogate v, l standing behind its escape: the character, and how many bytes more are read. -/
def surr (v : Nat) (l : List UInt8) : Nat × Nat :=
  match l with
  | c :: e :: t => if c = 92 ∧ e = 117 then (match hex4 (t.take 4) with
      | some lo => (match pairUp v lo with
        | some r => (r, 6)
        | none => (65533, 0))
      | none => (65533, 0)) else (65533, 0)
  | _ => (65533, 0)

/-- the bytes of an escape of one letter, and whether it is one that YAML lacks. -/
def esc1 (e : UInt8) : Option (UInt8 × Bool) :=
  if e = 34 ∨ e = 92 then some (e, false)
  else if e = 47 then some (47, true)
  else if e = 110 then some (10, false)
  else if e = 116 then some (9, false)
  else if e = 114 then some (13, false)
  else if e = 98 then some (8, false)
  else if e = 102 then some (12, false)
  else none

/-- one step: none: it fails; some none: the closing quote; else the bytes, the mark, how many bytes were read. -/
def step (l : List UInt8) : Option (Option (List UInt8 × Bool × Nat)) :=
  match l with
  | [] => none
  | c :: t =>
    if c = 34 then some none
    else if c = 92 then
      match t with
      | [] => none
      | e :: u =>
        if e = 117 then
          match hex4 (u.take 4) with
          | none => none
          | some v => if isSur v then some (some (Lib.encodeRune (surr v (u.drop 4)).1, true, 6 + (surr v (u.drop 4)).2)) else some (some (Lib.encodeRune v, false, 6))
        else match esc1 e with
          | none => none
          | some (b, m) => some (some ([b], m, 2))
    else some (some ([c], false, 1))

/-- the reader. -/
def rd : Nat → List UInt8 → List UInt8 → Bool → Nat → Option (List UInt8 × Nat) × Bool
  | 0, _, _, m, _ => (none, m)
  | f + 1, l, acc, m, i => match step l with
    | none => (none, m)
    | some none => (some (acc, i + 1), m)
    | some (some (bs, q, k)) => rd f (l.drop k) (acc ++ bs) (m || q) (i + k)

theorem step_pos (l bs : List UInt8) (q : Bool) (k : Nat) (h : step l = some (some (bs, q, k))) : 1 ≤ k := by
  unfold step at h
  split at h
  · simp at h
  · split at h
    · simp at h
    split at h
    · split at h
      · simp at h
      · split at h
        · split at h
          · simp at h
          · split at h
            · simp at h; omega
            · simp at h; omega
        · split at h
          · simp at h
          · simp at h; omega
    · simp at h; omega

theorem drop_len {l : List UInt8} {k : Nat} (h : l ≠ []) (hk : 1 ≤ k) : (l.drop k).length < l.length := by
  have := List.length_pos_iff.mpr h
  rw [List.length_drop]; omega
theorem step_nil : step [] = none := rfl
/-- fuel enough is as good as more. -/
theorem rd_fuel : ∀ (f g : Nat) (l acc : List UInt8) (m : Bool) (i : Nat), l.length ≤ f → l.length ≤ g → rd f l acc m i = rd g l acc m i := by
  intro f
  induction f with
  | zero =>
    intro g l acc m i hf hg
    have : l = [] := List.length_eq_zero_iff.mp (by omega)
    subst this
    cases g with
    | zero => rfl
    | succ g => simp [rd, step_nil]
  | succ f ih =>
    intro g l acc m i hf hg
    cases g with
    | zero =>
      have : l = [] := List.length_eq_zero_iff.mp (by omega)
      subst this
      simp [rd, step_nil]
    | succ g =>
      unfold rd
      cases hs : step l with
      | none => rfl
      | some o =>
        cases o with
        | none => rfl
        | some x =>
          obtain ⟨bs, q, k⟩ := x
          have hk := step_pos l bs q k hs
          have hl : l ≠ [] := by intro e; subst e; simp [step_nil] at hs
          have := drop_len hl hk
          exact ih g _ _ _ _ (by omega) (by omega)

/-- the reader with the line's own length for fuel. -/
def rdr (l acc : List UInt8) (m : Bool) (i : Nat) : Option (List UInt8 × Nat) × Bool := rd l.length l acc m i
theorem rdr_nil (acc : List UInt8) (m : Bool) (i : Nat) : rdr [] acc m i = (none, m) := rfl
theorem rdr_fail (l acc : List UInt8) (m : Bool) (i : Nat) (h : step l = none) : rdr l acc m i = (none, m) := by
  unfold rdr
  cases l with
  | nil => rfl
  | cons c t => simp [rd, h]
theorem rdr_quote (l acc : List UInt8) (m : Bool) (i : Nat) (h : step l = some none) : rdr l acc m i = (some (acc, i + 1), m) := by
  unfold rdr
  cases l with
  | nil => simp [step_nil] at h
  | cons c t => simp [rd, h]
theorem rdr_step (l acc bs : List UInt8) (m q : Bool) (i k : Nat) (h : step l = some (some (bs, q, k))) : rdr l acc m i = rdr (l.drop k) (acc ++ bs) (m || q) (i + k) := by
  have hk := step_pos l bs q k h
  unfold rdr
  cases l with
  | nil => simp [step_nil] at h
  | cons c t =>
    have hd : ((c :: t).drop k).length ≤ t.length := by rw [List.length_drop, List.length_cons]; omega
    simp only [List.length_cons, rd, h]
    exact rd_fuel _ _ _ _ _ _ hd (Nat.le_refl _)

theorem seg_take (s : ByteArray) (a m n : Nat) (h : m ≤ n) : (seg s a n).take (m - a) = seg s a m := by
  unfold seg
  rw [List.drop_take, List.take_take, List.drop_take]
  congr 1
  omega
theorem surr_miss (v : Nat) (l : List UInt8) (h : l.length < 6) : surr v l = (65533, 0) := by
  unfold surr
  split
  · rename_i c e t
    split
    · have : hex4 (t.take 4) = none := by
        unfold hex4
        rw [if_neg]
        simp at h ⊢; omega
      rw [this]
    · rfl
  · rfl
theorem surr_at (s : ByteArray) (v k n : Nat) (h : k + 6 ≤ n) (hn : n ≤ s.size) : surr v (seg s k n) =
    if s[k] = 92 ∧ s[k + 1] = 117 then (match hex4 (seg s (k + 2) (k + 6)) with
      | some lo => (match pairUp v lo with
        | some r => (r, 6)
        | none => (65533, 0))
      | none => (65533, 0)) else (65533, 0) := by
  rw [seg_cons s k n (by omega) hn (by omega), seg_cons s (k + 1) n (by omega) hn (by omega)]
  have e := seg_take s (k + 2) (k + 6) n h
  rw [show k + 6 - (k + 2) = 4 from by omega] at e
  unfold surr
  simp only
  rw [show k + 1 + 1 = k + 2 from rfl, e]
end Go.Proofs.Qxb6615727a
