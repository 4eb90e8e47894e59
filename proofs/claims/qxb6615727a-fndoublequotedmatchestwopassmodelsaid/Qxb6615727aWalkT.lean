/-
  Seat b6615727a: the walk of FnDoubleQuotedMatchesTwoPassModel.
-/
import Derived.Test.Qxb6615727aWalkN
import Derived.Test.Qxb6615727aWalkF
namespace Go.Proofs.Qxb6615727a
open Go.RowKit

/-- the mark that the first pass starts with stays. -/
theorem tkr_mark : ∀ (N : Nat) (l : List UInt8) (acc : List (Bool × Nat)) (m : Bool) (i : Nat), l.length ≤ N → tkr l acc m i = ((tkr l acc false i).1, m || (tkr l acc false i).2) := by
  intro N
  induction N with
  | zero =>
    intro l acc m i hN
    have : l = [] := List.length_eq_zero_iff.mp (by omega)
    subst this
    rw [tkr_fail _ _ _ _ tstep_nil, tkr_fail _ _ _ _ tstep_nil]; simp
  | succ N ih =>
    intro l acc m i hN
    cases hs : tstep l with
    | none => rw [tkr_fail _ _ _ _ hs, tkr_fail _ _ _ _ hs]; simp
    | some o =>
      cases o with
      | none => rw [tkr_quote _ _ _ _ hs, tkr_quote _ _ _ _ hs]; simp
      | some y =>
        obtain ⟨x, q, k⟩ := y
        have hk := tstep_pos l x q k hs
        have hl : l ≠ [] := by intro e; subst e; simp [tstep_nil] at hs
        have hd := drop_len hl hk
        rw [tkr_step _ _ _ _ _ _ _ hs, tkr_step _ _ _ false _ _ _ hs, ih (l.drop k) _ (m || q) _ (by omega), ih (l.drop k) _ (false || q) _ (by omega)]
        simp [Bool.or_assoc]

/-- the two answers are one. -/
theorem two_answers (l : List UInt8) (m : Bool) (i : Nat) : ∃ (x : ByteArray) (z : Int) (b mm : Bool), dqVal (rdr l [] m i).1 = .tuple #[.string x, .int .i64 z, .bool b] ∧ (rdr l [] m i).2 = (m || mm) ∧ dqm (tkr l [] false i) = .tuple #[.string x, .int .i64 z, .bool b, .bool mm] := by
  rw [two_pass _ l [] m i (Nat.le_refl _), tkr_mark _ l [] m i (Nat.le_refl _)]
  cases h : tkr l [] false i with
  | mk o mm =>
    cases o with
    | none => exact ⟨_, _, _, _, rfl, rfl, rfl⟩
    | some p =>
      obtain ⟨ts, c⟩ := p
      refine ⟨⟨(dec ts).toArray⟩, (c : Int) + 1, true, mm, ?_, rfl, rfl⟩
      simp [dqVal]

set_option maxHeartbeats 4000000 in
set_option maxRecDepth 100000 in
theorem lawM_in (s : ByteArray) (n a : Nat) (m : Bool) (w0 : s.size ≤ maxLen) (c1 : (s.size : Int) ≤ 1048576) (h1 : a < n) (h3 : n ≤ s.size) (w : World) :
    Calls Try.prog 8 #[.string s, .int .i64 n, .int .i64 a, .bool m] w fun e w' => e = .returned (.bool true) ∧ Below w.heap.size w w' := by
  obtain ⟨x, z, b0, mm, q1, q2, q3⟩ := two_answers (seg s (a + 1) n) m (a + 1)
  have R1 : Hid _ := q1
  have R2 : Hid _ := q2
  have R3 : Hid _ := q3
  clear q1 q2 q3
  have hn' := h3
  have w0' := w0
  unfold maxLen at w0'
  go_enter Try.func8, Try.ntmps8
  go_wp2_with fail
  refine (bytesM s n a _ w w0).mono ?_
  rintro e w' ⟨b, rfl, rfl, hb⟩
  clear hb
  cases b with
  | false =>
    go_wp2
    go_ret
    exact ⟨rfl, Below.refl _ _⟩
  | true =>
  go_wp2_with fail
  refine (dqLineOK_any s n a _ w0).mono ?_
  rintro e w' ⟨b, rfl, rfl, hb⟩
  clear hb
  cases b with
  | false =>
    go_wp2
    go_ret
    exact ⟨rfl, Below.refl _ _⟩
  | true =>
  go_wp2_with fail
  refine (lineStart_any s a _ w0 (by omega)).mono ?_
  rintro e w' ⟨y, rfl, rfl⟩
  go_wp2_with fail
  refine (newParser_any s y n a m _).mono ?_
  rintro e w' ⟨rfl, rfl⟩
  go_wp2_with fail
  refine (zzDq_psr _ s y n a m n a w rfl rfl w0 c1 h1 h3).mono ?_
  rintro e W1 ⟨he, hc, hb1⟩
  rw [R1.out] at he
  rw [R2.out] at hc
  subst he
  have b1 : Below w.heap.size w W1 := ((Below.refl w.heap.size w).alloc (Nat.le_refl _) _).trans hb1
  clear hb1
  go_wp2_with fail
  refine (zzEscaped_any w.heap.size (m || mm) W1 hc).mono ?_
  rintro e w' ⟨rfl, rfl⟩
  go_wp2_with fail
  refine (dqModel_any s n a W1 w0 c1 h1 h3).mono ?_
  rintro e W2 ⟨he, hb2⟩
  rw [R3.out] at he
  subst he
  have b2 : Below w.heap.size w W2 := b1.trans (hb2.mono b1.size)
  clear hb2 b1 hc R1 R2 R3
  cases m <;> cases mm
  all_goals
    go_wp2
    go_ret
    exact ⟨rfl, b2⟩

set_option maxHeartbeats 1000000 in
set_option maxRecDepth 100000 in
theorem lawM_out (s : ByteArray) (a1 a2 : Int) (m : Bool) (w0 : s.size ≤ maxLen) (h : ¬ (0 ≤ a2 ∧ a2 < a1 ∧ a1 ≤ (s.size : Int) ∧ (s.size : Int) ≤ 1048576)) (w : World) :
    Calls Try.prog 8 #[.string s, .int .i64 a1, .int .i64 a2, .bool m] w fun e w' => e = .returned (.bool true) ∧ Below w.heap.size w w' := by
  have w0' := w0
  unfold maxLen at w0'
  go_enter Try.func8, Try.ntmps8
  go_wp2_with fail
  refine (bytesM s a1 a2 _ w w0).mono ?_
  rintro e w' ⟨b, rfl, rfl, hb⟩
  cases b with
  | false =>
    clear hb
    go_wp2
    go_ret
    exact ⟨rfl, Below.refl _ _⟩
  | true =>
    have hz := hb rfl
    clear hb
    go_wp2_with fail
    refine (dqLineOK_any s a1 a2 _ w0).mono ?_
    rintro e w' ⟨b, rfl, rfl, hb⟩
    cases b with
    | false =>
      clear hb
      go_wp2
      go_ret
      exact ⟨rfl, Below.refl _ _⟩
    | true =>
      obtain ⟨b1, b2, b3⟩ := hb rfl
      exact absurd ⟨b1, b2, b3, hz⟩ h

theorem lawM_any (a0 : ByteArray) (a1 a2 : Int) (a3 : Bool) (w0 : a0.size ≤ maxLen) (w : World) :
    Calls Try.prog 8 #[.string a0, .int .i64 a1, .int .i64 a2, .bool a3] w fun e w' => e = .returned (.bool true) ∧ Below w.heap.size w w' := by
  by_cases h : 0 ≤ a2 ∧ a2 < a1 ∧ a1 ≤ (a0.size : Int) ∧ (a0.size : Int) ≤ 1048576
  · obtain ⟨h1, h2, h3, c1⟩ := h
    obtain ⟨a, rfl⟩ := Int.eq_ofNat_of_zero_le h1
    obtain ⟨n, rfl⟩ := Int.eq_ofNat_of_zero_le (show 0 ≤ a1 by omega)
    exact lawM_in a0 n a a3 w0 c1 (by omega) (by omega) w
  · exact lawM_out a0 a1 a2 a3 w0 h w
end Go.Proofs.Qxb6615727a
