/-
  Seat b6615727a: the walk of FnRestBlankTextAfterEnd.
-/
import Derived.Test.Qxb6615727aWalkB
import Derived.Deep.QuietTactic
import Derived.BigQuiet
import Derived.RowKit3
namespace Go.Proofs.Qxb6615727a
open Go.RowKit

set_option maxHeartbeats 1000000 in
theorem law2_out (s : ByteArray) (a1 a2 a3 : Int) (x : ByteArray) (w0 : s.size ≤ maxLen) (wx : x.size ≤ maxLen)
    (h : ¬ (0 ≤ a1 ∧ a1 ≤ a2 ∧ a2 ≤ (s.size : Int) ∧ a1 ≤ a3 ∧ a3 ≤ a2 ∧ (s.size : Int) + (x.size : Int) ≤ 1048576)) (w : World) :
    Calls Try.prog 4 #[.string s, .int .i64 a1, .int .i64 a2, .int .i64 a3, .string x] w fun e w' => e = .returned (.bool true) ∧ Grown w w' := by
  have w0' := w0
  have wx' := wx
  unfold maxLen at w0' wx'
  go_enter Try.func4, Try.ntmps4
  go_wp2_with fail
  refine (bytes4x s x a1 a2 a3 w w0 wx).mono ?_
  rintro e w' ⟨b, rfl, rfl, hb⟩
  cases b with
  | false =>
    clear hb
    go_wp2
    go_ret
    exact ⟨rfl, Grown.refl _⟩
  | true =>
    have hz := hb rfl
    clear hb
    go_wp2_with fail
    refine (lineOK_any s a1 a2 _ w0).mono ?_
    rintro e w' ⟨b, rfl, rfl, hb⟩
    cases b with
    | false =>
      clear hb
      go_wp2
      go_ret
      exact ⟨rfl, Grown.refl _⟩
    | true =>
      have hb' := hb rfl
      clear hb
      have hc : a3 < a1 ∨ a2 < a3 := by omega
      clear h hb'
      by_cases hd : a3 < a1
      · go_wp2
        go_ret
        exact ⟨rfl, Grown.refl _⟩
      · have hc' : a2 < a3 := by omega
        clear hc
        go_wp2
        go_ret
        exact ⟨rfl, Grown.refl _⟩

set_option maxHeartbeats 1000000 in
theorem law2_in (s : ByteArray) (l n a : Nat) (x : ByteArray) (w0 : s.size ≤ maxLen) (wx : x.size ≤ maxLen) (c1 : (s.size : Int) + (x.size : Int) ≤ 1048576) (h1 : l ≤ a) (h2 : a ≤ n) (h3 : n ≤ s.size) (w : World) :
    Calls Try.prog 4 #[.string s, .int .i64 l, .int .i64 n, .int .i64 a, .string x] w fun e w' => e = .returned (.bool true) ∧ Grown w w' := by
  have w0' := w0
  have wx' := wx
  unfold maxLen at w0' wx'
  obtain ⟨f1, E1⟩ := seg_end s a n (n + x.size) x h2 h3 rfl
  obtain ⟨f2, E2⟩ := seg_cut s a n (a + 1 + x.size) ⟨#[32]⟩ x h2 h3 rfl
  have F1 : Hid _ := f1
  have F2 : Hid (seg (s.extract 0 a ++ ⟨#[32]⟩ ++ x ++ s.extract n s.size) a (a + 1 + x.size) = 32 :: x.data.toList) := f2
  have E1' : Hid _ := E1
  have E2' : Hid ((s.extract 0 a ++ ⟨#[32]⟩ ++ x ++ s.extract n s.size).size = a + 1 + x.size + (s.size - n)) := E2
  have G : Hid ((s.extract a n).data.toList = seg s a n) := ext_seg s a n
  clear f1 f2 E1 E2
  go_enter Try.func4, Try.ntmps4
  go_wp2_with fail
  refine (bytes4x s x l n a w w0 wx).mono ?_
  rintro e w' ⟨b, rfl, rfl, hb⟩
  clear hb
  cases b with
  | false =>
    go_wp2
    go_ret
    exact ⟨rfl, Grown.refl _⟩
  | true =>
  go_wp2_with fail
  refine (lineOK_any s l n _ w0).mono ?_
  rintro e w' ⟨b, rfl, rfl, hb⟩
  clear hb
  cases b with
  | false =>
    go_wp2
    go_ret
    exact ⟨rfl, Grown.refl _⟩
  | true =>
  go_wp2_with fail
  refine (hasNewline_any x _ wx).mono ?_
  rintro e w' ⟨b, rfl, rfl, hb⟩
  clear hb
  cases b with
  | true =>
    go_wp2
    go_ret
    exact ⟨rfl, Grown.refl _⟩
  | false =>
    go_wp2_with fail
    refine (newParser_any s l n a false _).mono ?_
    rintro e w' ⟨rfl, rfl⟩
    go_wp2_with fail
    refine (zzRest_psr _ s l n a n a w rfl rfl rfl w0 h2 h3).mono ?_
    rintro e w' ⟨rfl, rfl⟩
    go_wp2_with fail
    go_quiet (fail)
    go_wp2_with fail
    refine (newParser_any _ _ _ _ false _).mono ?_
    rintro e w' ⟨rfl, rfl⟩
    go_wp2_with fail
    refine (zzRest_psr _ _ _ _ _ (n + x.size) a _ (by simp) (by omega) rfl (by rw [E1'.out]; unfold maxLen; omega) (by omega) (by rw [E1'.out]; omega)).mono ?_
    rintro e w' ⟨he, rfl⟩
    rw [F1.out] at he
    subst he
    go_wp2_with fail
    refine (onlySpaces_any _ _ (by simp; unfold maxLen; omega)).mono ?_
    rintro e w' ⟨he, rfl⟩
    rw [G.out] at he
    subst he
    cases hs : spaces (seg s a n) with
    | false =>
      have hq := blank_append_other (seg s a n) x.data.toList hs
      cases hr : blank (seg s a n) with
      | true =>
        rw [hr] at hq
        go_wp2
        go_ret
        exact ⟨rfl, by repeat (first | exact Grown.refl _ | apply Grown.drew | apply Grown.alloc)⟩
      | false =>
        rw [hr] at hq
        go_wp2
        go_ret
        exact ⟨rfl, by repeat (first | exact Grown.refl _ | apply Grown.drew | apply Grown.alloc)⟩
    | true =>
      have hr := blank_spaces (seg s a n) hs
      by_cases hlt : a < n
      · have hne : ((a : Int) == (n : Int)) = false := by simp; omega
        have hq := blank_append_spaces (seg s a n) x.data.toList hs (seg_ne_nil s a n hlt h3)
        have Hq : Hid _ := hq
        clear hq
        go_wp2_with fail
        go_quiet (fail)
        go_wp2_with fail
        refine (newParser_any _ _ _ _ false _).mono ?_
        rintro e w' ⟨rfl, rfl⟩
        go_wp2_with fail
        refine (zzRest_psr _ _ _ _ _ (a + 1 + x.size) a _ (by simp) (by omega) rfl (by rw [E2'.out]; unfold maxLen; omega) (by omega) (by rw [E2'.out]; omega)).mono ?_
        rintro e w' ⟨he, rfl⟩
        rw [F2.out, ← Hq.out] at he
        subst he
        cases hv : blank (seg s a n ++ x.data.toList) with
        | true =>
          go_wp2
          go_ret
          exact ⟨rfl, by repeat (first | exact Grown.refl _ | apply Grown.drew | apply Grown.alloc)⟩
        | false =>
          go_wp2
          go_ret
          exact ⟨rfl, by repeat (first | exact Grown.refl _ | apply Grown.drew | apply Grown.alloc)⟩
      · have : a = n := by omega
        subst this
        go_wp2
        go_ret
        exact ⟨rfl, by repeat (first | exact Grown.refl _ | apply Grown.drew | apply Grown.alloc)⟩
end Go.Proofs.Qxb6615727a
