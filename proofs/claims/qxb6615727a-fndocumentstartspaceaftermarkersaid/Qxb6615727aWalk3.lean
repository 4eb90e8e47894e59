/-
  Seat b6615727a: the walk of FnDocumentStartSpaceAfterMarker.
-/
import Derived.Test.Qxb6615727aPlainC
import Derived.Test.Qxb6615727aWalkC
import Derived.RowKit3
namespace Go.Proofs.Qxb6615727a
open Go.RowKit

theorem grown_drewN {W w' : World} (h : Grown W w') (n : Nat) : Grown W (w'.drewN n) := h
theorem grown_psr {W w' : World} (h : Grown W w') (s : ByteArray) (a b c : Int) (e : Bool) : Grown W (w'.alloc (psr s a b c e)) := by unfold psr; exact h.alloc _ _

set_option maxHeartbeats 1000000 in
theorem law3_out (s : ByteArray) (a1 a2 a3 : Int) (w0 : s.size ≤ maxLen)
    (h : ¬ (0 ≤ a1 ∧ a1 ≤ a2 ∧ a2 ≤ (s.size : Int) ∧ a1 ≤ a3 ∧ a3 ≤ a2 ∧ a1 + 3 ≤ a2 ∧ (s.size : Int) ≤ 1048576)) (w : World) :
    Calls Try.prog 5 #[.string s, .int .i64 a1, .int .i64 a2, .int .i64 a3] w fun e w' => e = .returned (.bool true) ∧ Grown w w' := by
  have w0' := w0
  unfold maxLen at w0'
  go_enter Try.func5, Try.ntmps5
  go_wp2_with fail
  refine (bytesDoc s a1 a2 a3 w w0).mono ?_
  rintro e w' ⟨b, rfl, rfl, hb⟩
  cases b with
  | false =>
    clear hb
    go_wp2
    go_ret
    exact ⟨rfl, Grown.refl _⟩
  | true =>
    have hz := hb rfl
    clear hb
    go_wp2_with fail
    refine (lineOK_any s a1 a2 _ w0).mono ?_
    rintro e w' ⟨b, rfl, rfl, hb⟩
    cases b with
    | false =>
      clear hb
      go_wp2
      go_ret
      exact ⟨rfl, Grown.refl _⟩
    | true =>
      obtain ⟨b1, b2, b3⟩ := hb rfl
      clear hb
      by_cases hd : a3 < a1
      · go_wp2
        go_ret
        exact ⟨rfl, Grown.refl _⟩
      · by_cases hc : a2 < a3
        · go_wp2
          go_ret
          exact ⟨rfl, Grown.refl _⟩
        · have hg : a2 - a1 < 3 := by omega
          clear h
          go_wp2
          go_ret
          exact ⟨rfl, Grown.refl _⟩

set_option maxHeartbeats 4000000 in
theorem law3_in (s : ByteArray) (l n a : Nat) (w0 : s.size ≤ maxLen) (c1 : (s.size : Int) ≤ 1048576) (h1 : l ≤ a) (h2 : a ≤ n) (h3 : n ≤ s.size) (h4 : l + 3 ≤ n) (w : World) :
    Calls Try.prog 5 #[.string s, .int .i64 l, .int .i64 n, .int .i64 a] w fun e w' => e = .returned (.bool true) ∧ Grown w w' := by
  have w0' := w0
  unfold maxLen at w0'
  have h4' : ¬ (n : Int) - (l : Int) < 3 := by omega
  go_enter Try.func5, Try.ntmps5
  go_wp2_with fail
  refine (bytesDoc s l n a w w0).mono ?_
  rintro e w' ⟨b, rfl, rfl, hb⟩
  clear hb
  cases b with
  | false =>
    go_wp2
    go_ret
    exact ⟨rfl, Grown.refl _⟩
  | true =>
  go_wp2_with fail
  refine (lineOK_any s l n _ w0).mono ?_
  rintro e w' ⟨b, rfl, rfl, hb⟩
  clear hb
  cases b with
  | false =>
    go_wp2
    go_ret
    exact ⟨rfl, Grown.refl _⟩
  | true =>
  by_cases hmk : ((s.extract l (l + 3)).toList == [45, 45, 45]) = true
  · have m0 : seg s l (l + 3) = [45, 45, 45] := by
      rw [← ext_seg, ← ByteArray.toList_eq]; simpa using hmk
    have m1 : seg (s.extract 0 (l + 3) ++ ⟨#[32]⟩ ++ s.extract (l + 3) s.size) l (l + 3) = [45, 45, 45] := by
      rw [seg_before s _ l (l + 3) (by omega)]; exact m0
    obtain ⟨f1, E1⟩ := seg_ins s (l + 3) n (n + 1) ⟨#[32]⟩ h4 h3 rfl
    have F1 : Hid (seg (s.extract 0 (l + 3) ++ ⟨#[32]⟩ ++ s.extract (l + 3) s.size) (l + 3) (n + 1) = 32 :: seg s (l + 3) n) := f1
    have E1' : Hid ((s.extract 0 (l + 3) ++ ⟨#[32]⟩ ++ s.extract (l + 3) s.size).size = s.size + 1) := E1
    have M0 : Hid _ := m0
    have M1 : Hid _ := m1
    have G : Hid ((s.extract (l + 3) n).data.toList = seg s (l + 3) n) := ext_seg s (l + 3) n
    have G2 : Hid ((s.extract (l + 3) n).size = n - (l + 3)) := ext_size s (l + 3) n h4 h3
    clear f1 E1 m0 m1
    go_wp2_with fail
    refine (newParser_any s l n a false _).mono ?_
    rintro e w' ⟨rfl, rfl⟩
    go_wp2_with fail
    refine (zzDoc_psr _ s n l a l n w rfl rfl rfl w0 h4 h3 (marker s l (by omega) M0.out)).mono ?_
    rintro e w' ⟨rfl, nq, rfl⟩
    go_wp2_with fail
    go_quiet (fail)
    go_wp2_with fail
    refine (newParser_any _ _ _ _ false _).mono ?_
    rintro e w' ⟨rfl, rfl⟩
    go_wp2_with fail
    refine (zzDoc_psr _ _ _ _ _ l (n + 1) _ (by simp) (by omega) rfl (by rw [E1'.out]; unfold maxLen; omega) (by omega) (by rw [E1'.out]; omega) (marker _ l (by rw [E1'.out]; omega) M1.out)).mono ?_
    rintro e w' ⟨he, nq2, rfl⟩
    rw [F1.out, blank_space] at he
    subst he
    by_cases hlt : l + 3 < n
    · have h0 : 0 < (s.extract (l + 3) n).size := by rw [G2.out]; omega
      have h0' : (0 : Int) < ((s.extract (l + 3) n).size : Int) := by omega
      have hz := spaced_at s (l + 3) n hlt h3 (by omega)
      rw [← ext_get s (l + 3) n hlt h3 h0] at hz
      cases hr : blank (seg s (l + 3) n) with
      | true =>
        have hq : spaced (seg s (l + 3) n) = true := by rw [hz, hr]; rfl
        clear hz
        go_wp2_with fail
        refine (blankOrComment_any _ _ (by rw [G2.out]; unfold maxLen; omega)).mono ?_
        rintro e w' ⟨he, rfl⟩
        rw [G.out, hq] at he
        subst he
        go_wp2
        go_ret
        exact ⟨rfl, by repeat (first | with_reducible exact Grown.refl _ | with_reducible refine grown_drewN ?_ _ | with_reducible refine grown_psr ?_ _ _ _ _ _ | (with_reducible refine Grown.setCell ?_ (by simp) _))⟩
      | false =>
        cases hh : (((s.extract (l + 3) n)[0].toNat : Int) == 35) with
        | true =>
          have hq : spaced (seg s (l + 3) n) = true := by rw [hz, hr, hh]; rfl
          clear hz
          go_wp2_with fail
          refine (blankOrComment_any _ _ (by rw [G2.out]; unfold maxLen; omega)).mono ?_
          rintro e w' ⟨he, rfl⟩
          rw [G.out, hq] at he
          subst he
          go_wp2
          go_ret
          exact ⟨rfl, by repeat (first | with_reducible exact Grown.refl _ | with_reducible refine grown_drewN ?_ _ | with_reducible refine grown_psr ?_ _ _ _ _ _ | (with_reducible refine Grown.setCell ?_ (by simp) _))⟩
        | false =>
          have hq : spaced (seg s (l + 3) n) = false := by rw [hz, hr, hh]; rfl
          clear hz
          go_wp2_with fail
          refine (blankOrComment_any _ _ (by rw [G2.out]; unfold maxLen; omega)).mono ?_
          rintro e w' ⟨he, rfl⟩
          rw [G.out, hq] at he
          subst he
          go_wp2
          go_ret
          exact ⟨rfl, by repeat (first | with_reducible exact Grown.refl _ | with_reducible refine grown_drewN ?_ _ | with_reducible refine grown_psr ?_ _ _ _ _ _ | (with_reducible refine Grown.setCell ?_ (by simp) _))⟩
    · have hn3 : n = l + 3 := by omega
      obtain ⟨hq, hr⟩ := spaced_nil s (l + 3)
      rw [← hn3] at hq hr
      have hq' : spaced (seg s (l + 3) n) = true := by rw [← hn3]; exact hq
      have hr' : blank (seg s (l + 3) n) = true := by rw [← hn3]; exact hr
      have h0 : ((s.extract (l + 3) n).size : Int) = 0 := by rw [G2.out]; omega
      clear hn3 hq hr
      go_wp2_with fail
      refine (blankOrComment_any _ _ (by rw [G2.out]; unfold maxLen; omega)).mono ?_
      rintro e w' ⟨he, rfl⟩
      rw [G.out, hq'] at he
      subst he
      go_wp2
      go_ret
      exact ⟨rfl, by repeat (first | with_reducible exact Grown.refl _ | with_reducible refine grown_drewN ?_ _ | with_reducible refine grown_psr ?_ _ _ _ _ _ | (with_reducible refine Grown.setCell ?_ (by simp) _))⟩
  · have hmk' : ((s.extract l (l + 3)).toList == [45, 45, 45]) = false := by simpa using hmk
    clear hmk
    go_wp2
    go_ret
    exact ⟨rfl, Grown.refl _⟩
end Go.Proofs.Qxb6615727a
