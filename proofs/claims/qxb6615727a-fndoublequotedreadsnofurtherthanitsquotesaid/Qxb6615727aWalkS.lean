/-
  Seat b6615727a: the three ways of FnDoubleQuotedReadsNoFurtherThanItsQuote joined.
-/
import Derived.Test.Qxb6615727aWalkR
namespace Go.Proofs.Qxb6615727a
open Go.RowKit

theorem lawR_all (s : ByteArray) (n a k : Nat) (w0 : s.size ≤ maxLen) (c1 : (s.size : Int) ≤ 1048576) (h1 : a < n) (h2 : a < k) (h4 : k ≤ n) (h3 : n ≤ s.size) (w : World) :
    Calls Try.prog 9 #[.string s, .int .i64 n, .int .i64 a, .int .i64 k] w fun e w' => e = .returned (.bool true) ∧ Below w.heap.size w w' := by
  have hcut : (rdr (seg (s.extract 0 k) (a + 1) k) [] false (a + 1)).1 = cutOf (rdr (seg s (a + 1) n) [] false (a + 1)).1 k := by
    rw [seg_ext s (a + 1) k n h4, rdr_cut _ _ _ _ _ _ (Nat.le_refl _), show a + 1 + (k - (a + 1)) = k from by omega]
  cases hr : rdr (seg s (a + 1) n) [] false (a + 1) with
  | mk o m2 =>
    rw [hr] at hcut
    cases o with
    | none =>
      exact lawR_none s n a k w0 c1 h1 h2 h4 h3 (by show (rdr (seg s (a + 1) n) [] false (a + 1)).1 = none; rw [hr]) hcut w
    | some x =>
      obtain ⟨v, off⟩ := x
      obtain ⟨i1, i2, i3, i4⟩ := rdr_inv _ _ _ _ _ _ _ _ (Nat.le_refl _) hr
      rw [seg_length s (a + 1) n h1 h3] at i2
      simp only [List.length_nil] at i4
      have hq : s[off - 1]'(by omega) = 34 := seg_getElem s (a + 1) n (off - 1) (by omega) (by omega) h3 34 i3
      have o3 : (((s[off - 1]'(by omega)).toNat : Int) != 34) = false := by rw [hq]; rfl
      have R1 : (rdr (seg s (a + 1) n) [] false (a + 1)).1 = some (v, off) := by rw [hr]
      unfold cutOf at hcut
      simp only at hcut
      by_cases hk : off ≤ k
      · rw [if_pos hk] at hcut
        exact lawR_in s n a k off v w0 c1 h1 h2 h4 h3 (by omega) (by omega) (by omega) o3 (by omega) hk R1 hcut w
      · rw [if_neg hk] at hcut
        exact lawR_past s n a k off v w0 c1 h1 h2 h4 h3 (by omega) (by omega) (by omega) o3 (by omega) (by omega) R1 hcut w
end Go.Proofs.Qxb6615727a
