/-
  Seat b6615727a: the walk of FnRestBlankSpaceBeforeRest.
-/
import Derived.Test.Qxb6615727aWalkA
import Derived.Deep.QuietTactic
import Derived.BigQuiet
import Derived.RowKit3
namespace Go.Proofs.Qxb6615727a
open Go.RowKit

set_option maxHeartbeats 1000000 in
theorem law1_big (a0 : ByteArray) (a1 a2 a3 : Int) (c1 : (1048576 : Int) < (a0.size : Int)) (w : World) :
    Calls Try.prog 3 #[.string a0, .int .i64 a1, .int .i64 a2, .int .i64 a3] w fun e w' => e = .returned (.bool true) ∧ Grown w w' := by
  go_enter Try.func3, Try.ntmps3
  go_wp2_with fail
  refine (bytes3_no a0 a1 a2 a3 w c1).mono ?_
  rintro e w' ⟨rfl, rfl⟩
  go_wp2
  go_ret
  exact ⟨rfl, Grown.refl _⟩

set_option maxHeartbeats 1000000 in
theorem law1_out (a0 : ByteArray) (a1 a2 a3 : Int) (w0 : a0.size ≤ maxLen) (h : ¬ (0 ≤ a1 ∧ a1 ≤ a2 ∧ a2 ≤ (a0.size : Int) ∧ a1 ≤ a3 ∧ a3 ≤ a2)) (w : World) :
    Calls Try.prog 3 #[.string a0, .int .i64 a1, .int .i64 a2, .int .i64 a3] w fun e w' => e = .returned (.bool true) ∧ Grown w w' := by
  have w0' := w0
  unfold maxLen at w0'
  by_cases c1 : (1048576 : Int) < (a0.size : Int)
  · exact law1_big a0 a1 a2 a3 c1 w
  · go_enter Try.func3, Try.ntmps3
    go_wp2_with fail
    refine (bytes3 a0 a1 a2 a3 w w0 (by omega)).mono ?_
    rintro e w' ⟨rfl, rfl⟩
    go_wp2_with fail
    refine (lineOK_any a0 a1 a2 _ w0).mono ?_
    rintro e w' ⟨b, rfl, rfl, hb⟩
    cases b with
    | false =>
      clear hb
      go_wp2
      go_ret
      exact ⟨rfl, Grown.refl _⟩
    | true =>
      have hb' := hb rfl
      clear hb
      have hc : a3 < a1 ∨ a2 < a3 := by omega
      clear h hb'
      rcases hc with hc | hc
      · go_wp2
        go_ret
        exact ⟨rfl, Grown.refl _⟩
      · by_cases hd : a3 < a1
        · go_wp2
          go_ret
          exact ⟨rfl, Grown.refl _⟩
        · go_wp2
          go_ret
          exact ⟨rfl, Grown.refl _⟩

set_option maxHeartbeats 1000000 in
theorem law1_in (s : ByteArray) (l n a : Nat) (w0 : s.size ≤ maxLen) (c1 : (s.size : Int) ≤ 1048576) (h1 : l ≤ a) (h2 : a ≤ n) (h3 : n ≤ s.size) (w : World) :
    Calls Try.prog 3 #[.string s, .int .i64 l, .int .i64 n, .int .i64 a] w fun e w' => e = .returned (.bool true) ∧ Grown w w' := by
  have w0' := w0
  unfold maxLen at w0'
  obtain ⟨f1, E1⟩ := seg_ins s a n (n + 1) ⟨#[32]⟩ h2 h3 rfl
  obtain ⟨f2, E2⟩ := seg_ins s a n (n + 2) ⟨#[32, 32]⟩ h2 h3 rfl
  have F1 : Hid (seg (s.extract 0 a ++ ⟨#[32]⟩ ++ s.extract a s.size) a (n + 1) = 32 :: seg s a n) := f1
  have F2 : Hid (seg (s.extract 0 a ++ ⟨#[32, 32]⟩ ++ s.extract a s.size) a (n + 2) = 32 :: 32 :: seg s a n) := f2
  have E1' : Hid _ := E1
  have E2' : Hid _ := E2
  clear f1 f2 E1 E2
  go_enter Try.func3, Try.ntmps3
  go_wp2_with fail
  refine (bytes3 s l n a w w0 (by omega)).mono ?_
  rintro e w' ⟨rfl, rfl⟩
  go_wp2_with fail
  refine (lineOK_any s l n _ w0).mono ?_
  rintro e w' ⟨b, rfl, rfl, hb⟩
  clear hb
  cases b with
  | false =>
    go_wp2
    go_ret
    exact ⟨rfl, Grown.refl _⟩
  | true =>
    go_wp2_with fail
    refine (newParser_any s l n a false _).mono ?_
    rintro e w' ⟨rfl, rfl⟩
    go_wp2_with fail
    refine (zzRest_psr _ s l n a n a w rfl rfl rfl w0 h2 h3).mono ?_
    rintro e w' ⟨rfl, rfl⟩
    go_wp2_with fail
    go_quiet (fail)
    go_wp2_with fail
    refine (newParser_any _ _ _ _ false _).mono ?_
    rintro e w' ⟨rfl, rfl⟩
    go_wp2_with fail
    refine (zzRest_psr _ _ _ _ _ (n + 1) a _ (by simp) (by omega) rfl (by rw [E1'.out]; simp only [show (ByteArray.mk #[32]).size = 1 from rfl]; unfold maxLen; omega) (by omega) (by rw [E1'.out]; simp only [show (ByteArray.mk #[32]).size = 1 from rfl]; omega)).mono ?_
    rintro e w' ⟨he, rfl⟩
    rw [F1.out, blank_space] at he
    subst he
    go_wp2_with fail
    go_quiet (fail)
    go_wp2_with fail
    refine (newParser_any _ _ _ _ false _).mono ?_
    rintro e w' ⟨rfl, rfl⟩
    go_wp2_with fail
    refine (zzRest_psr _ _ _ _ _ (n + 2) a _ (by simp) (by omega) rfl (by rw [E2'.out]; simp only [show (ByteArray.mk #[32, 32]).size = 2 from rfl]; unfold maxLen; omega) (by omega) (by rw [E2'.out]; simp only [show (ByteArray.mk #[32, 32]).size = 2 from rfl]; omega)).mono ?_
    rintro e w' ⟨he, rfl⟩
    rw [F2.out, blank_space2] at he
    subst he
    clear F1 F2 E1' E2'
    by_cases hlt : a < n
    · have hz := spaced_at s a n hlt h3 (by omega)
      cases hr : blank (seg s a n) with
      | true =>
        have hq : spaced (seg s a n) = true := by rw [hz, hr]; rfl
        clear hz
        go_wp2
        go_ret
        exact ⟨rfl, by repeat (first | exact Grown.refl _ | apply Grown.drew | apply Grown.alloc)⟩
      | false =>
        cases hh : ((s[a].toNat : Int) == 35) with
        | true =>
          have hq : spaced (seg s a n) = true := by rw [hz, hr, hh]; rfl
          clear hz
          go_wp2
          go_ret
          exact ⟨rfl, by repeat (first | exact Grown.refl _ | apply Grown.drew | apply Grown.alloc)⟩
        | false =>
          have hq : spaced (seg s a n) = false := by rw [hz, hr, hh]; rfl
          clear hz
          go_wp2
          go_ret
          exact ⟨rfl, by repeat (first | exact Grown.refl _ | apply Grown.drew | apply Grown.alloc)⟩
    · have : a = n := by omega
      subst this
      obtain ⟨hq, hr⟩ := spaced_nil s a
      go_wp2
      go_ret
      exact ⟨rfl, by repeat (first | exact Grown.refl _ | apply Grown.drew | apply Grown.alloc)⟩
end Go.Proofs.Qxb6615727a
