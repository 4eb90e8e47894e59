/-
  Seat b6615727a: the plain side of 'doubleQuoted matches the two-pass model': first pass, second pass, and that they are the reader.
-/
import Derived.Test.Qxb6615727aPlainR
namespace Go.Proofs.Qxb6615727a

/-- one token: none: it fails; some none: the closing quote; else the token (is it a unit? which), the mark, how many bytes. -/
def tstep (l : List UInt8) : Option (Option ((Bool × Nat) × Bool × Nat)) :=
  match l with
  | [] => none
  | c :: t =>
    if c = 34 then some none
    else if c = 92 then
      match t with
      | [] => none
      | e :: u =>
        if e = 117 then
          match hex4 (u.take 4) with
          | none => none
          | some v => some (some ((true, v), isSur v, 6))
        else match esc1 e with
          | none => none
          | some (b, m) => some (some ((false, b.toNat), m, 2))
    else some (some ((false, c.toNat), false, 1))

def tk : Nat → List UInt8 → List (Bool × Nat) → Bool → Nat → Option (List (Bool × Nat) × Nat) × Bool
  | 0, _, _, m, _ => (none, m)
  | f + 1, l, acc, m, i => match tstep l with
    | none => (none, m)
    | some none => (some (acc, i), m)
    | some (some (x, q, k)) => tk f (l.drop k) (acc ++ [x]) (m || q) (i + k)

theorem tstep_pos (l : List UInt8) (x : Bool × Nat) (q : Bool) (k : Nat) (h : tstep l = some (some (x, q, k))) : 1 ≤ k := by
  unfold tstep at h
  split at h
  · simp at h
  · split at h
    · simp at h
    split at h
    · split at h
      · simp at h
      · split at h
        · split at h
          · simp at h
          · simp at h; omega
        · split at h
          · simp at h
          · simp at h; omega
    · simp at h; omega
theorem tstep_nil : tstep [] = none := rfl
theorem tk_fuel : ∀ (f g : Nat) (l : List UInt8) (acc : List (Bool × Nat)) (m : Bool) (i : Nat), l.length ≤ f → l.length ≤ g → tk f l acc m i = tk g l acc m i := by
  intro f
  induction f with
  | zero =>
    intro g l acc m i hf hg
    have : l = [] := List.length_eq_zero_iff.mp (by omega)
    subst this
    cases g with
    | zero => rfl
    | succ g => simp [tk, tstep_nil]
  | succ f ih =>
    intro g l acc m i hf hg
    cases g with
    | zero =>
      have : l = [] := List.length_eq_zero_iff.mp (by omega)
      subst this
      simp [tk, tstep_nil]
    | succ g =>
      unfold tk
      cases hs : tstep l with
      | none => rfl
      | some o =>
        cases o with
        | none => rfl
        | some y =>
          obtain ⟨x, q, k⟩ := y
          have hk := tstep_pos l x q k hs
          have hl : l ≠ [] := by intro e; subst e; simp [tstep_nil] at hs
          have := drop_len hl hk
          exact ih g _ _ _ _ (by omega) (by omega)
def tkr (l : List UInt8) (acc : List (Bool × Nat)) (m : Bool) (i : Nat) : Option (List (Bool × Nat) × Nat) × Bool := tk l.length l acc m i
theorem tkr_fail (l : List UInt8) (acc : List (Bool × Nat)) (m : Bool) (i : Nat) (h : tstep l = none) : tkr l acc m i = (none, m) := by
  unfold tkr
  cases l with
  | nil => rfl
  | cons c t => simp [tk, h]
theorem tkr_quote (l : List UInt8) (acc : List (Bool × Nat)) (m : Bool) (i : Nat) (h : tstep l = some none) : tkr l acc m i = (some (acc, i), m) := by
  unfold tkr
  cases l with
  | nil => simp [tstep_nil] at h
  | cons c t => simp [tk, h]
theorem tkr_step (l : List UInt8) (acc : List (Bool × Nat)) (x : Bool × Nat) (m q : Bool) (i k : Nat) (h : tstep l = some (some (x, q, k))) : tkr l acc m i = tkr (l.drop k) (acc ++ [x]) (m || q) (i + k) := by
  have hk := tstep_pos l x q k h
  unfold tkr
  cases l with
  | nil => simp [tstep_nil] at h
  | cons c t =>
    have hd : ((c :: t).drop k).length ≤ t.length := by rw [List.length_drop, List.length_cons]; omega
    simp only [List.length_cons, tk, h]
    exact tk_fuel _ _ _ _ _ _ hd (Nat.le_refl _)

/-- a unit by itself. -/
def one (v : Nat) : Nat := if isSur v then 65533 else v
/-- the second pass. -/
def dec : List (Bool × Nat) → List UInt8
  | [] => []
  | (false, v) :: t => v.toUInt8 :: dec t
  | (true, v) :: (true, lo) :: t => match pairUp v lo with
    | some r => Lib.encodeRune r ++ dec t
    | none => Lib.encodeRune (one v) ++ dec ((true, lo) :: t)
  | (true, v) :: t => Lib.encodeRune (one v) ++ dec t

/-- what the first pass has gathered stays at the head. -/
theorem tkr_acc : ∀ (N : Nat) (l : List UInt8) (acc : List (Bool × Nat)) (m : Bool) (i : Nat), l.length ≤ N →
    tkr l acc m i = ((tkr l [] m i).1.map (fun p => (acc ++ p.1, p.2)), (tkr l [] m i).2) := by
  intro N
  induction N with
  | zero =>
    intro l acc m i hN
    have : l = [] := List.length_eq_zero_iff.mp (by omega)
    subst this
    rfl
  | succ N ih =>
    intro l acc m i hN
    cases hs : tstep l with
    | none => rw [tkr_fail _ _ _ _ hs, tkr_fail _ _ _ _ hs]; rfl
    | some o =>
      cases o with
      | none => rw [tkr_quote _ _ _ _ hs, tkr_quote _ _ _ _ hs]; simp
      | some y =>
        obtain ⟨x, q, k⟩ := y
        have hk := tstep_pos l x q k hs
        have hl : l ≠ [] := by intro e; subst e; simp [tstep_nil] at hs
        have hd := drop_len hl hk
        rw [tkr_step _ _ _ _ _ _ _ hs, tkr_step _ [] _ _ _ _ _ hs]
        rw [ih (l.drop k) (acc ++ [x]) _ _ (by omega), ih (l.drop k) ([] ++ [x]) _ _ (by omega)]
        cases (tkr (l.drop k) [] (m || q) (i + k)).1 with
        | none => rfl
        | some p => simp
/-- a first token. -/
theorem tkr_cons (l : List UInt8) (x : Bool × Nat) (m q : Bool) (i k : Nat) (h : tstep l = some (some (x, q, k))) :
    tkr l [] m i = ((tkr (l.drop k) [] (m || q) (i + k)).1.map (fun p => (x :: p.1, p.2)), (tkr (l.drop k) [] (m || q) (i + k)).2) := by
  rw [tkr_step _ _ _ _ _ _ _ h, tkr_acc _ _ _ _ _ (Nat.le_refl _)]
  simp

/-- what the tokens of a line begin with. -/
theorem tkr_head (l : List UInt8) (m : Bool) (i c lo : Nat) (ts : List (Bool × Nat)) (m2 : Bool) (h : tkr l [] m i = (some ((true, lo) :: ts, c), m2)) : ∃ t, l = 92 :: 117 :: t ∧ hex4 (t.take 4) = some lo := by
  cases hs : tstep l with
  | none => rw [tkr_fail _ _ _ _ hs] at h; simp at h
  | some o =>
    cases o with
    | none => rw [tkr_quote _ _ _ _ hs] at h; simp at h
    | some y =>
      obtain ⟨x, q, k⟩ := y
      rw [tkr_cons _ _ _ _ _ _ hs] at h
      cases hr : (tkr (l.drop k) [] (m || q) (i + k)).1 with
      | none => rw [hr] at h; simp at h
      | some p =>
        rw [hr] at h
        simp only [Option.map_some, Prod.mk.injEq, Option.some.injEq, List.cons.injEq] at h
        obtain ⟨⟨⟨rfl, _⟩, _⟩, _⟩ := h
        unfold tstep at hs
        split at hs
        · simp at hs
        · rename_i c0 t0
          split at hs
          · simp at hs
          split at hs
          · rename_i h92
            split at hs
            · simp at hs
            · rename_i e0 u0
              split at hs
              · rename_i h117
                split at hs
                · simp at hs
                · rename_i v hx
                  simp only [Option.some.injEq, Prod.mk.injEq, true_and] at hs
                  exact ⟨u0, by rw [h92, h117], by rw [hx]; simp [hs.1]⟩
              · split at hs
                · simp at hs
                · simp at hs
          · simp at hs

theorem dec_unit (v : Nat) (ts : List (Bool × Nat)) (h : ∀ lo t, ts = (true, lo) :: t → pairUp v lo = none) : dec ((true, v) :: ts) = Lib.encodeRune (one v) ++ dec ts := by
  match ts with
  | [] => rfl
  | (false, x) :: t => rfl
  | (true, lo) :: t =>
    have := h lo t rfl
    rw [dec, this]
theorem pair_sur (v lo r : Nat) (h : pairUp v lo = some r) : isSur v = true := by
  unfold pairUp at h
  split at h
  · rename_i hc; unfold isSur; simp; omega
  · simp at h

/-- THE TWO PASSES ARE THE READER. -/
theorem two_pass : ∀ (N : Nat) (l : List UInt8) (acc : List UInt8) (m : Bool) (i : Nat), l.length ≤ N →
    rdr l acc m i = ((tkr l [] m i).1.map (fun p => (acc ++ dec p.1, p.2 + 1)), (tkr l [] m i).2) := by
  intro N
  induction N with
  | zero =>
    intro l acc m i hN
    have : l = [] := List.length_eq_zero_iff.mp (by omega)
    subst this
    rfl
  | succ N ih =>
    intro l acc m i hN
    -- one step on either side, the same bytes
    have same : ∀ (bs : List UInt8) (x : Bool × Nat) (q : Bool) (k : Nat), step l = some (some (bs, q, k)) → tstep l = some (some (x, q, k)) →
        (∀ p m2, tkr (l.drop k) [] (m || q) (i + k) = (some p, m2) → dec (x :: p.1) = bs ++ dec p.1) → rdr l acc m i = ((tkr l [] m i).1.map (fun p => (acc ++ dec p.1, p.2 + 1)), (tkr l [] m i).2) := by
      intro bs x q k h1 h2 hd
      have hk := step_pos _ _ _ _ h1
      have hl : l ≠ [] := by intro e; subst e; simp [step_nil] at h1
      have := drop_len hl hk
      rw [rdr_step _ _ _ _ _ _ _ h1, tkr_cons _ _ _ _ _ _ h2, ih (l.drop k) _ _ _ (by omega)]
      cases hr : tkr (l.drop k) [] (m || q) (i + k) with
      | mk o m2 =>
        cases o with
        | none => rfl
        | some p =>
          have := hd p m2 hr
          simp [this, List.append_assoc]
    cases l with
    | nil => rfl
    | cons c t =>
      by_cases h34 : c = 34
      · subst h34
        have s1 : step (34 :: t) = some none := by simp [step]
        have s2 : tstep (34 :: t) = some none := by simp [tstep]
        rw [rdr_quote _ _ _ _ s1, tkr_quote _ _ _ _ s2]
        simp [dec]
      by_cases h92 : c = 92
      · subst h92
        cases t with
        | nil =>
          rw [rdr_fail _ _ _ _ (by simp [step]), tkr_fail _ _ _ _ (by simp [tstep])]; rfl
        | cons e u =>
          by_cases h117 : e = 117
          · subst h117
            cases hx : hex4 (u.take 4) with
            | none =>
              have s1 : step (92 :: 117 :: u) = none := by unfold step; simp only; rw [if_neg (by decide), if_pos trivial, if_pos trivial, hx]
              have s2 : tstep (92 :: 117 :: u) = none := by unfold tstep; simp only; rw [if_neg (by decide), if_pos trivial, if_pos trivial, hx]
              rw [rdr_fail _ _ _ _ s1, tkr_fail _ _ _ _ s2]; rfl
            | some v =>
              have s2 : tstep (92 :: 117 :: u) = some (some ((true, v), isSur v, 6)) := by unfold tstep; simp only; rw [if_neg (by decide), if_pos trivial, if_pos trivial, hx]
              have s1 : step (92 :: 117 :: u) = if isSur v then some (some (Lib.encodeRune (surr v (u.drop 4)).1, true, 6 + (surr v (u.drop 4)).2)) else some (some (Lib.encodeRune v, false, 6)) := by
                unfold step; simp only; rw [if_neg (by decide), if_pos trivial, if_pos trivial, hx]
              have dr : (92 :: 117 :: u).drop 6 = u.drop 4 := rfl
              cases hs : isSur v with
              | false =>
                rw [hs] at s1 s2
                rw [if_neg (by decide)] at s1
                refine same _ _ _ _ s1 s2 (fun p m2 _ => ?_)
                rw [dec_unit v p.1 (fun lo t _ => ?_)]
                · unfold one; rw [hs]; rfl
                · cases hp : pairUp v lo with
                  | none => rfl
                  | some r => have := pair_sur v lo r hp; rw [hs] at this; simp at this
              | true =>
                rw [hs] at s1 s2
                simp only [if_pos] at s1
                rcases surr_cases v (u.drop 4) with h0 | ⟨h6, t2, lo, ht, hlo⟩
                · rw [h0] at s1
                  refine same _ _ _ _ s1 s2 (fun p m2 hr => ?_)
                  rw [show (92 :: 117 :: u).drop (6 + (65533, 0).2) = u.drop 4 from rfl] at hr
                  rw [dec_unit v p.1 (fun lo ts hts => ?_)]
                  · unfold one; rw [hs]; rfl
                  · obtain ⟨ps, pc⟩ := p
                    simp only at hts
                    subst hts
                    obtain ⟨t3, h3, hl3⟩ := tkr_head _ _ _ _ _ _ _ hr
                    cases hp : pairUp v lo with
                    | none => rfl
                    | some r =>
                      exfalso
                      rw [h3] at h0
                      unfold surr at h0
                      simp only [and_self, if_true, hl3, hp] at h0
                      simp at h0
                · -- a pair
                  have hsur : surr v (u.drop 4) = match pairUp v lo with
                      | some r => (r, 6)
                      | none => (65533, 0) := by
                    rw [ht]; unfold surr; simp only [and_self, if_true, hlo]
                    cases pairUp v lo <;> rfl
                  cases hp : pairUp v lo with
                  | none => rw [hp] at hsur; simp only at hsur; rw [hsur] at h6; simp at h6
                  | some r =>
                    rw [hp] at hsur
                    simp only at hsur
                    rw [hsur] at s1
                    have s3 : tstep (u.drop 4) = some (some ((true, lo), isSur lo, 6)) := by
                      rw [ht]; unfold tstep; simp only; rw [if_neg (by decide), if_pos trivial, if_pos trivial, hlo]
                    rw [rdr_step _ _ _ _ _ _ _ s1, tkr_cons _ _ _ _ _ _ s2, dr, tkr_cons _ _ _ _ _ _ s3]
                    have dd : (92 :: 117 :: u).drop (6 + (r, 6).2) = (u.drop 4).drop 6 := by
                      show (92 :: 117 :: u).drop 12 = _
                      rw [List.drop_drop]; rfl
                    have hlen : ((u.drop 4).drop 6).length ≤ N := by
                      simp only [List.length_drop, List.length_cons] at hN ⊢; omega
                    rw [dd, ih _ _ _ _ hlen]
                    have em : (m || true || isSur lo) = (m || true) := by simp
                    have ei : i + (6 + (r, 6).2) = i + 6 + 6 := by simp only [Nat.add_assoc]
                    rw [em, ei]
                    cases (tkr ((u.drop 4).drop 6) [] (m || true) (i + 6 + 6)).1 with
                    | none => rfl
                    | some p =>
                      simp only [Option.map_some]
                      have : dec ((true, v) :: (true, lo) :: p.1) = Lib.encodeRune r ++ dec p.1 := by rw [dec, hp]
                      rw [this, List.append_assoc]
          · cases he : esc1 e with
            | none =>
              have s1 : step (92 :: e :: u) = none := by simp [step, h117, he]
              have s2 : tstep (92 :: e :: u) = none := by simp [tstep, h117, he]
              rw [rdr_fail _ _ _ _ s1, tkr_fail _ _ _ _ s2]; rfl
            | some y =>
              obtain ⟨b, q⟩ := y
              have s1 : step (92 :: e :: u) = some (some ([b], q, 2)) := by simp [step, h117, he]
              have s2 : tstep (92 :: e :: u) = some (some ((false, b.toNat), q, 2)) := by simp [tstep, h117, he]
              refine same _ _ _ _ s1 s2 (fun p m2 _ => ?_)
              rw [dec]; simp
      · have s1 : step (c :: t) = some (some ([c], false, 1)) := by simp [step, h34, h92]
        have s2 : tstep (c :: t) = some (some ((false, c.toNat), false, 1)) := by simp [tstep, h34, h92]
        refine same _ _ _ _ s1 s2 (fun p m2 _ => ?_)
        rw [dec]; simp
end Go.Proofs.Qxb6615727a
