/-
  Seat b6615727a: the walk of FnDoubleQuotedReadsNoFurtherThanItsQuote.
-/
import Derived.Test.Qxb6615727aPlainR
import Derived.Test.Qxb6615727aWalkF
namespace Go.Proofs.Qxb6615727a
open Go.RowKit

set_option maxHeartbeats 1000000 in
set_option maxRecDepth 100000 in
theorem lawR_out (s : ByteArray) (a1 a2 a3 : Int) (w0 : s.size ≤ maxLen)
    (h : ¬ (0 ≤ a2 ∧ a2 < a1 ∧ a1 ≤ (s.size : Int) ∧ a2 < a3 ∧ a3 ≤ a1 ∧ (s.size : Int) ≤ 1048576)) (w : World) :
    Calls Try.prog 9 #[.string s, .int .i64 a1, .int .i64 a2, .int .i64 a3] w fun e w' => e = .returned (.bool true) ∧ Below w.heap.size w w' := by
  have w0' := w0
  unfold maxLen at w0'
  go_enter Try.func9, Try.ntmps9
  go_wp2_with fail
  refine (bytesR s a1 a2 _ w w0).mono ?_
  rintro e w' ⟨b, rfl, rfl, hb⟩
  cases b with
  | false =>
    clear hb
    go_wp2
    go_ret
    exact ⟨rfl, Below.refl _ _⟩
  | true =>
    have hz := hb rfl
    clear hb
    go_wp2_with fail
    refine (dqLineOK_any s a1 a2 _ w0).mono ?_
    rintro e w' ⟨b, rfl, rfl, hb⟩
    cases b with
    | false =>
      clear hb
      go_wp2
      go_ret
      exact ⟨rfl, Below.refl _ _⟩
    | true =>
      obtain ⟨b1, b2, b3⟩ := hb rfl
      clear hb
      by_cases hd : a3 ≤ a2
      · go_wp2
        go_ret
        exact ⟨rfl, Below.refl _ _⟩
      · have hg : a1 < a3 := by omega
        clear h
        go_wp2
        go_ret
        exact ⟨rfl, Below.refl _ _⟩

theorem seg_ext (s : ByteArray) (a k n : Nat) (h : k ≤ n) : seg (s.extract 0 k) a k = (seg s a n).take (k - a) := by
  rw [seg_take s a k n h]
  unfold seg
  rw [ext_take, List.take_take, Nat.min_self]
theorem seg_getElem (s : ByteArray) (a n j : Nat) (hj : a ≤ j) (hjn : j < n) (hn : n ≤ s.size) (c : UInt8) (h : (seg s a n)[j - a]? = some c) : s[j]'(by omega) = c := by
  unfold seg at h
  rw [List.getElem?_drop, show a + (j - a) = j from by omega, List.getElem?_take_of_lt hjn] at h
  have hl : j < s.data.toList.length := by rw [size_list]; omega
  rw [List.getElem?_eq_getElem hl] at h
  exact Option.some.inj h

/-- a line that is not read has no quote ahead of its first backslash. -/
theorem lp_none {s : ByteArray} {a n j : Nat} {m : Bool} (h : rdr (seg s (a + 1) n) [] m (a + 1) = rdr (seg s j n) (seg s (a + 1) j) m j) (hj : j < n) (hn : n ≤ s.size) (hq : ((s[j].toNat : Int) == 34) = true)
    (hr : (rdr (seg s (a + 1) n) [] m (a + 1)).1 = none) : False := by
  rw [h, rdr_quote _ _ _ _ (step_close s j n hj hn (by omega) (byteEqN _ 34 hq))] at hr
  simp at hr
theorem lp_some {s : ByteArray} {a n j off : Nat} {m : Bool} {v : List UInt8} (h : rdr (seg s (a + 1) n) [] m (a + 1) = rdr (seg s j n) (seg s (a + 1) j) m j) (hj : j < n) (hn : n ≤ s.size) (hq : ((s[j].toNat : Int) == 34) = true)
    (hr : (rdr (seg s (a + 1) n) [] m (a + 1)).1 = some (v, off)) : v = seg s (a + 1) j ∧ off = j + 1 := by
  rw [h, rdr_quote _ _ _ _ (step_close s j n hj hn (by omega) (byteEqN _ 34 hq))] at hr
  simp only [Option.some.injEq, Prod.mk.injEq] at hr
  exact ⟨hr.1.symm, hr.2.symm⟩

set_option maxHeartbeats 4000000 in
set_option maxRecDepth 100000 in
theorem lawR_none (s : ByteArray) (n a k : Nat) (w0 : s.size ≤ maxLen) (c1 : (s.size : Int) ≤ 1048576) (h1 : a < n) (h2 : a < k) (h4 : k ≤ n) (h3 : n ≤ s.size)
    (R1 : Hid ((rdr (seg s (a + 1) n) [] false (a + 1)).1 = none)) (R2 : Hid ((rdr (seg (s.extract 0 k) (a + 1) k) [] false (a + 1)).1 = none)) (w : World) :
    Calls Try.prog 9 #[.string s, .int .i64 n, .int .i64 a, .int .i64 k] w fun e w' => e = .returned (.bool true) ∧ Below w.heap.size w w' := by
  have hn' := h3
  have w0' := w0
  unfold maxLen at w0'
  have xs : (s.extract 0 k).size = k := by simp; omega
  go_enter Try.func9, Try.ntmps9
  go_wp2_with fail
  refine (bytesR s n a _ w w0).mono ?_
  rintro e w' ⟨b, rfl, rfl, hb⟩
  clear hb
  cases b with
  | false =>
    go_wp2
    go_ret
    exact ⟨rfl, Below.refl _ _⟩
  | true =>
  go_wp2_with fail
  refine (dqLineOK_any s n a _ w0).mono ?_
  rintro e w' ⟨b, rfl, rfl, hb⟩
  clear hb
  cases b with
  | false =>
    go_wp2
    go_ret
    exact ⟨rfl, Below.refl _ _⟩
  | true =>
  go_wp2_with fail
  refine (lineStart_any s a _ w0 (by omega)).mono ?_
  rintro e w' ⟨z, rfl, rfl⟩
  go_wp2_with fail
  refine (newParser_any s z n a false _).mono ?_
  rintro e w' ⟨rfl, rfl⟩
  go_wp2_with fail
  refine (zzDq_psr _ s z n a false n a w rfl rfl w0 c1 h1 h3).mono ?_
  rintro e W1 ⟨he, _, hb1⟩
  rw [R1.out] at he
  subst he
  unfold dqVal
  have b1 : Below w.heap.size w W1 := ((Below.refl w.heap.size w).alloc (Nat.le_refl _) _).trans hb1
  clear hb1
  go_wp2_with fail
  refine (newParser_any _ _ _ _ false _).mono ?_
  rintro e w' ⟨rfl, rfl⟩
  go_wp2_with fail
  refine (zzDq_psr _ (s.extract 0 k) z k a false k a W1 rfl rfl (by rw [xs]; unfold maxLen; omega) (by rw [xs]; omega) h2 (by rw [xs]; omega)).mono ?_
  rintro e W2 ⟨he, _, hb2⟩
  rw [R2.out] at he
  subst he
  unfold dqVal
  have b2 : Below w.heap.size w W2 := (b1.alloc b1.size _).trans (hb2.mono b1.size)
  clear hb2 b1
  go_wp2_with fail
  go_loop [17] (fun i => Lp s a n false i) (fun i => n - (intOf i).toNat)
  case atStart => exact Lp.mk (a + 1) _ (Nat.le_refl _) (by omega) (by omega) (by rw [seg_nil])
  case round =>
    obtain ⟨j, hj1, hj2, rfl, hpr⟩ := hrel
    have H : Hid (rdr (seg s (a + 1) n) [] false (a + 1) = rdr (seg s j n) (seg s (a + 1) j) false j) := hpr
    clear hpr
    by_cases hlt : j < n
    · have hjs : j < s.size := by omega
      cases e1 : ((s[j].toNat : Int) == 92) with
      | true =>
        go_wp2
        go_ret
        exact ⟨rfl, b2⟩
      | false =>
        cases e2 : ((s[j].toNat : Int) == 34) with
        | true =>
          exact (lp_none H.out hlt h3 e2 R1.out).elim
        | false =>
          go_wp2
          go_round
          case rel => exact Lp.next hj1 hlt hn' hjs rfl (byteNeN _ 34 e2) (byteNeN _ 92 e1) H.out
          case measure => simp [intOf]; omega
    · go_wp2
      go_ret
      exact ⟨rfl, b2⟩
set_option maxHeartbeats 4000000 in
set_option maxRecDepth 100000 in
theorem lawR_in (s : ByteArray) (n a k off : Nat) (v : List UInt8) (w0 : s.size ≤ maxLen) (c1 : (s.size : Int) ≤ 1048576) (h1 : a < n) (h2 : a < k) (h4 : k ≤ n) (h3 : n ≤ s.size)
    (o1 : a + 2 ≤ off) (o2 : off ≤ n) (o5 : off - 1 < s.size) (o3 : ((s[off - 1].toNat : Int) != 34) = false) (o4 : v.length + a + 2 ≤ off) (o6 : off ≤ k)
    (R1 : Hid ((rdr (seg s (a + 1) n) [] false (a + 1)).1 = some (v, off))) (R2 : Hid ((rdr (seg (s.extract 0 k) (a + 1) k) [] false (a + 1)).1 = some (v, off))) (w : World) :
    Calls Try.prog 9 #[.string s, .int .i64 n, .int .i64 a, .int .i64 k] w fun e w' => e = .returned (.bool true) ∧ Below w.heap.size w w' := by
  have hn' := h3
  have vz : (ByteArray.mk v.toArray).size = v.length := by show v.toArray.size = _; simp
  have i1 : (a : Int) + 1 < (off : Int) := by omega
  have i2 : (off : Int) ≤ (n : Int) := by omega
  have i3 : (1 : Int) ≤ (off : Int) := by omega
  have i4 : (off : Int) - 1 < (s.size : Int) := by omega
  have i5 : (v.length : Int) ≤ (off : Int) - (a : Int) - 2 := by omega
  have w0' := w0
  unfold maxLen at w0'
  have xs : (s.extract 0 k).size = k := by simp; omega
  go_enter Try.func9, Try.ntmps9
  go_wp2_with fail
  refine (bytesR s n a _ w w0).mono ?_
  rintro e w' ⟨b, rfl, rfl, hb⟩
  clear hb
  cases b with
  | false =>
    go_wp2
    go_ret
    exact ⟨rfl, Below.refl _ _⟩
  | true =>
  go_wp2_with fail
  refine (dqLineOK_any s n a _ w0).mono ?_
  rintro e w' ⟨b, rfl, rfl, hb⟩
  clear hb
  cases b with
  | false =>
    go_wp2
    go_ret
    exact ⟨rfl, Below.refl _ _⟩
  | true =>
  go_wp2_with fail
  refine (lineStart_any s a _ w0 (by omega)).mono ?_
  rintro e w' ⟨z, rfl, rfl⟩
  go_wp2_with fail
  refine (newParser_any s z n a false _).mono ?_
  rintro e w' ⟨rfl, rfl⟩
  go_wp2_with fail
  refine (zzDq_psr _ s z n a false n a w rfl rfl w0 c1 h1 h3).mono ?_
  rintro e W1 ⟨he, _, hb1⟩
  rw [R1.out] at he
  subst he
  unfold dqVal
  have b1 : Below w.heap.size w W1 := ((Below.refl w.heap.size w).alloc (Nat.le_refl _) _).trans hb1
  clear hb1
  go_wp2_with fail
  refine (newParser_any _ _ _ _ false _).mono ?_
  rintro e w' ⟨rfl, rfl⟩
  go_wp2_with fail
  refine (zzDq_psr _ (s.extract 0 k) z k a false k a W1 rfl rfl (by rw [xs]; unfold maxLen; omega) (by rw [xs]; omega) h2 (by rw [xs]; omega)).mono ?_
  rintro e W2 ⟨he, _, hb2⟩
  rw [R2.out] at he
  subst he
  unfold dqVal
  have b2 : Below w.heap.size w W2 := (b1.alloc b1.size _).trans (hb2.mono b1.size)
  clear hb2 b1
  go_wp2_with fail
  go_loop [17] (fun i => Lp s a n false i) (fun i => n - (intOf i).toNat)
  case atStart => exact Lp.mk (a + 1) _ (Nat.le_refl _) (by omega) (by omega) (by rw [seg_nil])
  case round =>
    obtain ⟨j, hj1, hj2, rfl, hpr⟩ := hrel
    have H : Hid (rdr (seg s (a + 1) n) [] false (a + 1) = rdr (seg s j n) (seg s (a + 1) j) false j) := hpr
    clear hpr
    by_cases hlt : j < n
    · have hjs : j < s.size := by omega
      cases e1 : ((s[j].toNat : Int) == 92) with
      | true =>
        go_wp2
        go_ret
        exact ⟨rfl, b2⟩
      | false =>
        cases e2 : ((s[j].toNat : Int) == 34) with
        | true =>
          obtain ⟨hv, ho⟩ := lp_some H.out hlt h3 e2 R1.out
          have ev : (v == (s.extract (a + 1) j).toList) = true := by rw [hv, ByteArray.toList_eq, ext_seg]; simp
          have eo : ((off : Int) != (j : Int) + 1) = false := by simp; omega
          clear hv ho
          go_wp2
          go_ret
          exact ⟨rfl, b2⟩
        | false =>
          go_wp2
          go_round
          case rel => exact Lp.next hj1 hlt hn' hjs rfl (byteNeN _ 34 e2) (byteNeN _ 92 e1) H.out
          case measure => simp [intOf]; omega
    · go_wp2
      go_ret
      exact ⟨rfl, b2⟩
set_option maxHeartbeats 4000000 in
set_option maxRecDepth 100000 in
theorem lawR_past (s : ByteArray) (n a k off : Nat) (v : List UInt8) (w0 : s.size ≤ maxLen) (c1 : (s.size : Int) ≤ 1048576) (h1 : a < n) (h2 : a < k) (h4 : k ≤ n) (h3 : n ≤ s.size)
    (o1 : a + 2 ≤ off) (o2 : off ≤ n) (o5 : off - 1 < s.size) (o3 : ((s[off - 1].toNat : Int) != 34) = false) (o4 : v.length + a + 2 ≤ off) (o6 : k < off)
    (R1 : Hid ((rdr (seg s (a + 1) n) [] false (a + 1)).1 = some (v, off))) (R2 : Hid ((rdr (seg (s.extract 0 k) (a + 1) k) [] false (a + 1)).1 = none)) (w : World) :
    Calls Try.prog 9 #[.string s, .int .i64 n, .int .i64 a, .int .i64 k] w fun e w' => e = .returned (.bool true) ∧ Below w.heap.size w w' := by
  have hn' := h3
  have vz : (ByteArray.mk v.toArray).size = v.length := by show v.toArray.size = _; simp
  have i1 : (a : Int) + 1 < (off : Int) := by omega
  have i2 : (off : Int) ≤ (n : Int) := by omega
  have i3 : (1 : Int) ≤ (off : Int) := by omega
  have i4 : (off : Int) - 1 < (s.size : Int) := by omega
  have i5 : (v.length : Int) ≤ (off : Int) - (a : Int) - 2 := by omega
  have w0' := w0
  unfold maxLen at w0'
  have xs : (s.extract 0 k).size = k := by simp; omega
  go_enter Try.func9, Try.ntmps9
  go_wp2_with fail
  refine (bytesR s n a _ w w0).mono ?_
  rintro e w' ⟨b, rfl, rfl, hb⟩
  clear hb
  cases b with
  | false =>
    go_wp2
    go_ret
    exact ⟨rfl, Below.refl _ _⟩
  | true =>
  go_wp2_with fail
  refine (dqLineOK_any s n a _ w0).mono ?_
  rintro e w' ⟨b, rfl, rfl, hb⟩
  clear hb
  cases b with
  | false =>
    go_wp2
    go_ret
    exact ⟨rfl, Below.refl _ _⟩
  | true =>
  go_wp2_with fail
  refine (lineStart_any s a _ w0 (by omega)).mono ?_
  rintro e w' ⟨z, rfl, rfl⟩
  go_wp2_with fail
  refine (newParser_any s z n a false _).mono ?_
  rintro e w' ⟨rfl, rfl⟩
  go_wp2_with fail
  refine (zzDq_psr _ s z n a false n a w rfl rfl w0 c1 h1 h3).mono ?_
  rintro e W1 ⟨he, _, hb1⟩
  rw [R1.out] at he
  subst he
  unfold dqVal
  have b1 : Below w.heap.size w W1 := ((Below.refl w.heap.size w).alloc (Nat.le_refl _) _).trans hb1
  clear hb1
  go_wp2_with fail
  refine (newParser_any _ _ _ _ false _).mono ?_
  rintro e w' ⟨rfl, rfl⟩
  go_wp2_with fail
  refine (zzDq_psr _ (s.extract 0 k) z k a false k a W1 rfl rfl (by rw [xs]; unfold maxLen; omega) (by rw [xs]; omega) h2 (by rw [xs]; omega)).mono ?_
  rintro e W2 ⟨he, _, hb2⟩
  rw [R2.out] at he
  subst he
  unfold dqVal
  have b2 : Below w.heap.size w W2 := (b1.alloc b1.size _).trans (hb2.mono b1.size)
  clear hb2 b1
  go_wp2_with fail
  go_loop [17] (fun i => Lp s a n false i) (fun i => n - (intOf i).toNat)
  case atStart => exact Lp.mk (a + 1) _ (Nat.le_refl _) (by omega) (by omega) (by rw [seg_nil])
  case round =>
    obtain ⟨j, hj1, hj2, rfl, hpr⟩ := hrel
    have H : Hid (rdr (seg s (a + 1) n) [] false (a + 1) = rdr (seg s j n) (seg s (a + 1) j) false j) := hpr
    clear hpr
    by_cases hlt : j < n
    · have hjs : j < s.size := by omega
      cases e1 : ((s[j].toNat : Int) == 92) with
      | true =>
        go_wp2
        go_ret
        exact ⟨ret_bool (by simp; omega), b2⟩
      | false =>
        cases e2 : ((s[j].toNat : Int) == 34) with
        | true =>
          obtain ⟨hv, ho⟩ := lp_some H.out hlt h3 e2 R1.out
          have ev : (v == (s.extract (a + 1) j).toList) = true := by rw [hv, ByteArray.toList_eq, ext_seg]; simp
          have eo : ((off : Int) != (j : Int) + 1) = false := by simp; omega
          clear hv ho
          go_wp2
          go_ret
          exact ⟨ret_bool (by simp; omega), b2⟩
        | false =>
          go_wp2
          go_round
          case rel => exact Lp.next hj1 hlt hn' hjs rfl (byteNeN _ 34 e2) (byteNeN _ 92 e1) H.out
          case measure => simp [intOf]; omega
    · go_wp2
      go_ret
      exact ⟨ret_bool (by simp; omega), b2⟩
end Go.Proofs.Qxb6615727a
