/-
  Seat b6615727a: the plain side of 'doubleQuoted reads no further than its quote'.
-/
import Derived.Test.Qxb6615727aPlainQ
namespace Go.Proofs.Qxb6615727a

theorem surr_len (v : Nat) (l : List UInt8) : (surr v l).2 ≤ l.length ∧ (surr v l).2 ≤ 6 := by
  unfold surr
  split
  · rename_i c e t
    split
    · split
      · rename_i lo hx
        split
        · unfold hex4 at hx
          split at hx
          · rename_i hl
            rw [List.length_take] at hl
            simp; omega
          · simp at hx
        · simp
      · simp
    · simp
  · simp
theorem hex4_len4 (l : List UInt8) (v : Nat) (h : hex4 (l.take 4) = some v) : 4 ≤ l.length := by
  unfold hex4 at h
  split at h
  · rename_i hl; rw [List.length_take] at hl; omega
  · simp at h
theorem enc_len (r : Int) : (Lib.encodeRune r).length ≤ 4 := by
  have := Lib.runeCells_le r
  rw [Lib.runeCells_length] at this
  omega

/-- a step reads what is there, and gives no more bytes than it reads. -/
theorem step_len (l bs : List UInt8) (q : Bool) (k : Nat) (h : step l = some (some (bs, q, k))) : k ≤ l.length ∧ bs.length ≤ k := by
  unfold step at h
  split at h
  · simp at h
  · split at h
    · simp at h
    split at h
    · split at h
      · simp at h
      · split at h
        · split at h
          · simp at h
          · rename_i v hx
            have h4 := hex4_len4 _ _ hx
            split at h
            · simp only [Option.some.injEq, Prod.mk.injEq] at h
              obtain ⟨rfl, rfl, rfl⟩ := h
              have h1 := surr_len v (List.drop 4 ‹List UInt8›)
              have h2 := enc_len ((surr v (List.drop 4 ‹List UInt8›)).1 : Nat)
              simp only [List.length_drop] at h1
              simp only [List.length_cons]
              omega
            · simp only [Option.some.injEq, Prod.mk.injEq] at h
              obtain ⟨rfl, rfl, rfl⟩ := h
              have h2 := enc_len (v : Nat)
              simp only [List.length_cons]
              omega
        · split at h
          · simp at h
          · simp only [Option.some.injEq, Prod.mk.injEq] at h
            obtain ⟨rfl, rfl, rfl⟩ := h
            simp
    · simp only [Option.some.injEq, Prod.mk.injEq] at h
      obtain ⟨rfl, rfl, rfl⟩ := h
      simp
theorem step_quote (l : List UInt8) (h : step l = some none) : ∃ t, l = 34 :: t := by
  unfold step at h
  split at h
  · simp at h
  · rename_i c t
    split at h
    · rename_i hc; exact ⟨t, by rw [hc]⟩
    · split at h
      · split at h
        · simp at h
        · split at h
          · split at h
            · simp at h
            · split at h <;> simp at h
          · split at h <;> simp at h
      · simp at h

/-- what has been read: its closing quote, its length. -/
theorem rdr_inv : ∀ (N : Nat) (l acc v : List UInt8) (m m2 : Bool) (i off : Nat), l.length ≤ N → rdr l acc m i = (some (v, off), m2) →
    i + 1 ≤ off ∧ off ≤ i + l.length ∧ l[off - 1 - i]? = some 34 ∧ v.length + i + 1 ≤ acc.length + off := by
  intro N
  induction N with
  | zero =>
    intro l acc v m m2 i off hN h
    have : l = [] := List.length_eq_zero_iff.mp (by omega)
    subst this
    simp [rdr_nil] at h
  | succ N ih =>
    intro l acc v m m2 i off hN h
    cases hs : step l with
    | none => rw [rdr_fail _ _ _ _ hs] at h; simp at h
    | some o =>
      cases o with
      | none =>
        rw [rdr_quote _ _ _ _ hs] at h
        simp only [Prod.mk.injEq, Option.some.injEq] at h
        obtain ⟨⟨rfl, rfl⟩, rfl⟩ := h
        obtain ⟨t, rfl⟩ := step_quote l hs
        refine ⟨Nat.le_refl _, by simp, ?_, by omega⟩
        rw [show i + 1 - 1 - i = 0 from by omega]; rfl
      | some x =>
        obtain ⟨bs, q, k⟩ := x
        rw [rdr_step _ _ _ _ _ _ _ hs] at h
        have hk := step_pos _ _ _ _ hs
        obtain ⟨hl, hb⟩ := step_len _ _ _ _ hs
        obtain ⟨h1, h2, h3, h4⟩ := ih (l.drop k) _ _ _ _ _ _ (by rw [List.length_drop]; omega) h
        rw [List.length_drop] at h2
        rw [List.length_append] at h4
        refine ⟨by omega, by omega, ?_, by omega⟩
        rw [List.getElem?_drop] at h3
        rw [show off - 1 - i = k + (off - 1 - (i + k)) from by omega]; exact h3

theorem surr_take (v d : Nat) (l : List UInt8) (h : 6 ≤ d) : surr v (l.take d) = surr v l := by
  match l with
  | [] => rw [List.take_nil]
  | [c] => rw [List.take_of_length_le (by simp; omega)]
  | c :: e :: t =>
    obtain ⟨d2, rfl⟩ : ∃ d2, d = d2 + 2 := ⟨d - 2, by omega⟩
    have e1 : (c :: e :: t).take (d2 + 2) = c :: e :: t.take d2 := rfl
    rw [e1]
    unfold surr
    have e2 : (t.take d2).take 4 = t.take 4 := by rw [List.take_take]; congr 1; omega
    simp only [e2]
theorem surr_short (v : Nat) (l : List UInt8) (h : l.length < 6) : surr v l = (65533, 0) := surr_miss v l h
theorem surr_cases (v : Nat) (l : List UInt8) : surr v l = (65533, 0) ∨ ((surr v l).2 = 6 ∧ ∃ t lo, l = 92 :: 117 :: t ∧ hex4 (t.take 4) = some lo) := by
  match l with
  | [] => exact Or.inl rfl
  | [c] => exact Or.inl rfl
  | c :: e :: t =>
    unfold surr
    simp only
    by_cases hc : c = 92 ∧ e = 117
    · obtain ⟨rfl, rfl⟩ := hc
      rw [if_pos ⟨rfl, rfl⟩]
      cases hx : hex4 (t.take 4) with
      | none => exact Or.inl rfl
      | some lo =>
        simp only
        cases pairUp v lo with
        | none => exact Or.inl rfl
        | some r => exact Or.inr ⟨rfl, t, lo, rfl, hx⟩
    · rw [if_neg hc]; exact Or.inl rfl
theorem step_cut_u (d : Nat) (t : List UInt8) (h : d < 6) : step ((92 :: 117 :: t).take d) = none := by
  match d with
  | 0 => rfl
  | 1 => rfl
  | d2 + 2 =>
    have e1 : (92 :: 117 :: t).take (d2 + 2) = 92 :: 117 :: t.take d2 := rfl
    rw [e1]
    unfold step
    simp only
    have : hex4 ((t.take d2).take 4) = none := by
      unfold hex4
      rw [if_neg]
      rw [List.length_take, List.length_take]; omega
    rw [if_neg (by decide), if_pos trivial, if_pos trivial, this]

/-- what a cut of the line reads. -/
def cutOf (o : Option (List UInt8 × Nat)) (b : Nat) : Option (List UInt8 × Nat) := match o with
  | some (v, off) => if off ≤ b then some (v, off) else none
  | none => none
theorem cutOf_none (l acc : List UInt8) (m : Bool) (i b : Nat) (h : b ≤ i) : cutOf (rdr l acc m i).1 b = none := by
  cases hr : rdr l acc m i with
  | mk o m2 =>
    cases o with
    | none => rfl
    | some x =>
      obtain ⟨v, off⟩ := x
      have := (rdr_inv l.length l acc v m m2 i off (Nat.le_refl _) hr).1
      unfold cutOf
      simp only
      rw [if_neg (by omega)]

theorem rdr_cut : ∀ (N : Nat) (l acc : List UInt8) (m : Bool) (i c : Nat), l.length ≤ N → (rdr (l.take c) acc m i).1 = cutOf (rdr l acc m i).1 (i + c) := by
  intro N
  induction N with
  | zero =>
    intro l acc m i c hN
    have : l = [] := List.length_eq_zero_iff.mp (by omega)
    subst this
    simp [rdr_nil, cutOf]
  | succ N ih =>
    intro l acc m i c hN
    -- a step that both make
    have both : ∀ (bs : List UInt8) (q : Bool) (k : Nat), step l = some (some (bs, q, k)) → step (l.take c) = some (some (bs, q, k)) → k ≤ c → (rdr (l.take c) acc m i).1 = cutOf (rdr l acc m i).1 (i + c) := by
      intro bs q k h1 h2 hk
      have hp := step_pos _ _ _ _ h1
      obtain ⟨hl, _⟩ := step_len _ _ _ _ h1
      rw [rdr_step _ _ _ _ _ _ _ h1, rdr_step _ _ _ _ _ _ _ h2, List.drop_take]
      have := ih (l.drop k) (acc ++ bs) (m || q) (i + k) (c - k) (by rw [List.length_drop]; omega)
      rw [this]
      congr 1
      omega
    -- a step that goes over the cut, where the cut line fails
    have past : ∀ (bs : List UInt8) (q : Bool) (k : Nat), step l = some (some (bs, q, k)) → step (l.take c) = none → c ≤ k → (rdr (l.take c) acc m i).1 = cutOf (rdr l acc m i).1 (i + c) := by
      intro bs q k h1 h2 hk
      rw [rdr_step _ _ _ _ _ _ _ h1, rdr_fail _ _ _ _ h2, cutOf_none _ _ _ _ _ (by omega)]
    have fails : step l = none → step (l.take c) = none → (rdr (l.take c) acc m i).1 = cutOf (rdr l acc m i).1 (i + c) := by
      intro h1 h2
      rw [rdr_fail _ _ _ _ h1, rdr_fail _ _ _ _ h2]; rfl
    match l, c with
    | [], c => simp [rdr_nil, cutOf]
    | x :: t, 0 =>
      rw [List.take_zero, rdr_nil, cutOf_none _ _ _ _ _ (by omega)]
    | x :: t, c1 + 1 =>
      have et : (x :: t).take (c1 + 1) = x :: t.take c1 := rfl
      by_cases h34 : x = 34
      · subst h34
        have s1 : step (34 :: t) = some none := by simp [step]
        have s2 : step ((34 :: t).take (c1 + 1)) = some none := by rw [et]; simp [step]
        rw [rdr_quote _ _ _ _ s1, rdr_quote _ _ _ _ s2]
        unfold cutOf
        simp only
        rw [if_pos (by omega)]
      by_cases h92 : x = 92
      · subst h92
        match t, c1 with
        | [], c1 => exact fails (by simp [step]) (by rw [et]; simp [step])
        | e :: u, 0 =>
          have s2 : step ((92 :: e :: u).take (0 + 1)) = none := by simp [step]
          cases s1 : step (92 :: e :: u) with
          | none => exact fails s1 s2
          | some o =>
            cases o with
            | none => obtain ⟨t2, h⟩ := step_quote _ s1; simp at h
            | some y =>
              obtain ⟨bs, q, k⟩ := y
              exact past bs q k s1 s2 (step_pos _ _ _ _ s1)
        | e :: u, c2 + 1 =>
          have eu : (92 :: e :: u).take (c2 + 1 + 1) = 92 :: e :: u.take c2 := rfl
          by_cases h117 : e = 117
          · subst h117
            have s1 : step (92 :: 117 :: u) = match hex4 (u.take 4) with
                | none => none
                | some v => if isSur v then some (some (Lib.encodeRune (surr v (u.drop 4)).1, true, 6 + (surr v (u.drop 4)).2)) else some (some (Lib.encodeRune v, false, 6)) := by
              unfold step
              simp only
              rw [if_neg (by decide), if_pos trivial, if_pos trivial]
              cases hex4 (u.take 4) <;> rfl
            have s2 : step ((92 :: 117 :: u).take (c2 + 1 + 1)) = match hex4 ((u.take c2).take 4) with
                | none => none
                | some v => if isSur v then some (some (Lib.encodeRune (surr v ((u.take c2).drop 4)).1, true, 6 + (surr v ((u.take c2).drop 4)).2)) else some (some (Lib.encodeRune v, false, 6)) := by
              rw [eu]
              unfold step
              simp only
              rw [if_neg (by decide), if_pos trivial, if_pos trivial]
              cases hex4 ((u.take c2).take 4) <;> rfl
            by_cases hc : c2 < 4
            · have hn : step ((92 :: 117 :: u).take (c2 + 1 + 1)) = none := step_cut_u _ u (by omega)
              cases hx : hex4 (u.take 4) with
              | none => rw [hx] at s1; exact fails s1 hn
              | some v =>
                rw [hx] at s1
                simp only at s1
                split at s1
                · exact past _ _ _ s1 hn (by omega)
                · exact past _ _ _ s1 hn (by omega)
            · have e4 : (u.take c2).take 4 = u.take 4 := by rw [List.take_take]; congr 1; omega
              have ed : (u.take c2).drop 4 = (u.drop 4).take (c2 - 4) := by rw [List.drop_take]
              rw [e4, ed] at s2
              cases hx : hex4 (u.take 4) with
              | none => rw [hx] at s1 s2; exact fails s1 s2
              | some v =>
                rw [hx] at s1 s2
                simp only at s1 s2
                cases hsu : isSur v with
                | false =>
                  rw [hsu] at s1 s2
                  exact both _ _ _ s1 s2 (by omega)
                | true =>
                  rw [hsu] at s1 s2
                  simp only [if_pos] at s1 s2
                  by_cases hd : 6 ≤ c2 - 4
                  · rw [surr_take v (c2 - 4) _ hd] at s2
                    have := (surr_len v (u.drop 4)).2
                    exact both _ _ _ s1 s2 (by omega)
                  · rcases surr_cases v (u.drop 4) with h0 | ⟨h6, t2, lo, ht, hlo⟩
                    · have h1 : surr v ((u.drop 4).take (c2 - 4)) = (65533, 0) := surr_short v _ (by rw [List.length_take]; omega)
                      rw [h0] at s1
                      rw [h1] at s2
                      exact both _ _ _ s1 s2 (by simp; omega)
                    · -- the pair goes over the cut: the cut line fails at the second escape
                      have h1 : surr v ((u.drop 4).take (c2 - 4)) = (65533, 0) := surr_short v _ (by rw [List.length_take]; omega)
                      rw [h1] at s2
                      rw [rdr_step _ _ _ _ _ _ _ s1, rdr_step _ _ _ _ _ _ _ s2]
                      rw [h6]
                      rw [cutOf_none _ _ _ _ _ (by omega)]
                      have e6 : ((92 :: 117 :: u).take (c2 + 1 + 1)).drop (6 + (65533, 0).2) = (u.take c2).drop 4 := rfl
                      rw [e6, ed, ht, rdr_fail _ _ _ _ (step_cut_u _ t2 (by omega))]
          · cases he : esc1 e with
            | none =>
              have s1 : step (92 :: e :: u) = none := by simp [step, h117, he]
              have s2 : step ((92 :: e :: u).take (c2 + 1 + 1)) = none := by rw [eu]; simp [step, h117, he]
              exact fails s1 s2
            | some y =>
              obtain ⟨b, q⟩ := y
              have s1 : step (92 :: e :: u) = some (some ([b], q, 2)) := by simp [step, h117, he]
              have s2 : step ((92 :: e :: u).take (c2 + 1 + 1)) = some (some ([b], q, 2)) := by rw [eu]; simp [step, h117, he]
              exact both _ _ _ s1 s2 (by omega)
      · have s1 : step (x :: t) = some (some ([x], false, 1)) := by simp [step, h34, h92]
        have s2 : step ((x :: t).take (c1 + 1)) = some (some ([x], false, 1)) := by rw [et]; simp [step, h34, h92]
        exact both _ _ _ s1 s2 (by omega)
end Go.Proofs.Qxb6615727a
