/-
  Seat b6615727a: (*parser).doubleQuoted.
-/
import Derived.Test.Qxb6615727aWalkH
import Derived.Test.Qxb6615727aBld
import Derived.Deep.QuietTactic
import Derived.BigQuiet
import Derived.Deep.RegionHeld3
namespace Go.Proofs.Qxb6615727a
open Go.RowKit

/-- doubleQuoted's answer as a value. -/
def dqVal (o : Option (List UInt8 × Nat)) : Value := match o with
  | some (v, off) => .tuple #[.string ⟨v.toArray⟩, .int .i64 off, .bool true]
  | none => .tuple #[.string ⟨#[]⟩, .int .i64 0, .bool false]
/-- what doubleQuoted leaves. -/
def DqPost (p : Nat) (r : Option (List UInt8 × Nat) × Bool) (w : World) (e : Ending) (w' : World) : Prop :=
  e = .returned (dqVal r.1) ∧ w'.cell? ⟨p, 25, none⟩ = some (.bool r.2) ∧ Below p w w'
theorem ret_dq {v : Value} {o : Option (List UInt8 × Nat)} (h : v = dqVal o) : Ending.returned v = .returned (dqVal o) := by rw [h]

/-- the first loop: plain bytes alone have been passed. -/
def Lp (s : ByteArray) (a n : Nat) (m : Bool) (i : Value) : Prop := ∃ k : Nat, a + 1 ≤ k ∧ k ≤ n ∧ i = .int .i64 k ∧ rdr (seg s (a + 1) n) [] m (a + 1) = rdr (seg s k n) (seg s (a + 1) k) m k
theorem Lp.mk {s : ByteArray} {a n : Nat} {m : Bool} (k : Nat) (z : Int) (h1 : a + 1 ≤ k) (h2 : k ≤ n) (h3 : z = (k : Int)) (h4 : rdr (seg s (a + 1) n) [] m (a + 1) = rdr (seg s k n) (seg s (a + 1) k) m k) : Lp s a n m (.int .i64 z) :=
  ⟨k, h1, h2, by rw [h3], h4⟩

/-- the second loop. -/
def Dr (p B : Nat) (s : ByteArray) (n : Nat) (r : Option (List UInt8 × Nat) × Bool) (w : World) (i : Value) (wr : World) : Prop :=
  ∃ (k : Nat) (acc : List UInt8) (m : Bool), i = .int .i64 k ∧ k ≤ n ∧ Bd B acc wr ∧ wr.cell? ⟨p, 0, none⟩ = some (.string s) ∧ wr.cell? ⟨p, 2, none⟩ = some (.int .i64 n) ∧ wr.cell? ⟨p, 25, none⟩ = some (.bool m)
    ∧ wr.frozen? ⟨p, 25, none⟩ = false ∧ Below p w wr ∧ acc.length ≤ k ∧ rdr (seg s k n) acc m k = r

theorem ext_at (s : ByteArray) (n k : Nat) (hk : k < n) (hn : n ≤ s.size) (h : k < (s.extract 0 n).size) : (s.extract 0 n)[k] = s[k] := by
  have e1 : (s.extract 0 n)[k] = (s.extract 0 n).data.toList[k]'(by rw [size_list]; exact h) := rfl
  rw [e1]
  simp only [ext_take, List.getElem_take]
  rfl
theorem ext_ext (s : ByteArray) (a k n : Nat) (hk : k ≤ n) : (s.extract 0 n).extract a k = ⟨(seg s a k).toArray⟩ := by
  apply Go.WideShapes.bytes_inj
  rw [ext_seg]
  unfold seg
  rw [ext_take, List.take_take, Nat.min_eq_left hk]
theorem ext_mk (s : ByteArray) (a k : Nat) : s.extract a k = ⟨(seg s a k).toArray⟩ := by
  apply Go.WideShapes.bytes_inj
  rw [ext_seg]
theorem seg_snoc (s : ByteArray) (a k : Nat) (h : a ≤ k) (hk : k < s.size) : seg s a (k + 1) = seg s a k ++ [s[k]] := by
  unfold seg
  rw [List.take_succ_eq_append_getElem (by rw [size_list]; exact hk), List.drop_append_of_le_length (by rw [List.length_take, size_list]; omega)]
  rfl
theorem seg_drop (s : ByteArray) (k j n : Nat) : (seg s k n).drop j = seg s (k + j) n := by
  unfold seg; rw [List.drop_drop]

theorem step_plain (s : ByteArray) (k n : Nat) (h : k < n) (hn : n ≤ s.size) (hk : k < s.size) (h1 : s[k] ≠ 34) (h2 : s[k] ≠ 92) : step (seg s k n) = some (some ([s[k]], false, 1)) := by
  rw [seg_cons s k n h hn hk]; simp [step, h1, h2]
theorem step_close (s : ByteArray) (k n : Nat) (h : k < n) (hn : n ≤ s.size) (hk : k < s.size) (h1 : s[k] = 34) : step (seg s k n) = some none := by
  rw [seg_cons s k n h hn hk]; simp [step, h1]
theorem Lp.next {s : ByteArray} {a n : Nat} {m : Bool} {k : Nat} {z : Int} (h1 : a + 1 ≤ k) (h2 : k < n) (hn : n ≤ s.size) (hk : k < s.size) (h3 : z = (k : Int) + 1) (e1 : s[k] ≠ 34) (e2 : s[k] ≠ 92)
    (h4 : rdr (seg s (a + 1) n) [] m (a + 1) = rdr (seg s k n) (seg s (a + 1) k) m k) : Lp s a n m (.int .i64 z) := by
  refine Lp.mk (k + 1) _ (by omega) (by omega) (by omega) (h4.trans ?_)
  rw [rdr_step _ _ _ _ _ _ _ (step_plain s k n h2 hn hk e1 e2), seg_drop, ← seg_snoc s (a + 1) k h1 hk, Bool.or_false]

theorem neOf (c d : UInt8) (h : ((c.toNat : Int) != (d.toNat : Int)) = true) : c ≠ d := byteNeN c d (by simpa [bne] using h)
theorem eqOf (c d : UInt8) (h : ((c.toNat : Int) != (d.toNat : Int)) = false) : c = d := byteEqN c d (by simpa [bne] using h)

theorem step_end (s : ByteArray) (k n : Nat) (h : k + 1 = n) (hn : n ≤ s.size) (hk : k < s.size) (h1 : s[k] = 92) : step (seg s k n) = none := by
  rw [seg_cons s k n (by omega) hn hk, h, seg_nil]; simp [step, h1]
theorem step_esc (s : ByteArray) (k n : Nat) (h : k + 1 < n) (hn : n ≤ s.size) (hk : k < s.size) (hk1 : k + 1 < s.size) (h1 : s[k] = 92) (h2 : s[k + 1] ≠ 117) (b : UInt8) (q : Bool) (h3 : esc1 s[k + 1] = some (b, q)) :
    step (seg s k n) = some (some ([b], q, 2)) := by
  rw [seg_cons s k n (by omega) hn hk, seg_cons s (k + 1) n h hn hk1]; simp [step, h1, h2, h3]
theorem step_bad (s : ByteArray) (k n : Nat) (h : k + 1 < n) (hn : n ≤ s.size) (hk : k < s.size) (hk1 : k + 1 < s.size) (h1 : s[k] = 92) (h2 : s[k + 1] ≠ 117) (h3 : esc1 s[k + 1] = none) :
    step (seg s k n) = none := by
  rw [seg_cons s k n (by omega) hn hk, seg_cons s (k + 1) n h hn hk1]; simp [step, h1, h2, h3]
theorem take4 (s : ByteArray) (k n : Nat) : (seg s k n).take 4 = seg s k (min (k + 4) n) := by
  unfold seg
  rw [List.drop_take, List.take_take, List.drop_take]
  congr 1
  omega
theorem step_u (s : ByteArray) (k n : Nat) (h : k + 1 < n) (hn : n ≤ s.size) (hk : k < s.size) (hk1 : k + 1 < s.size) (h1 : s[k] = 92) (h2 : s[k + 1] = 117) :
    step (seg s k n) = match hex4 (seg s (k + 2) (min (k + 6) n)) with
      | none => none
      | some v => if isSur v then some (some (Lib.encodeRune (surr v (seg s (k + 6) n)).1, true, 6 + (surr v (seg s (k + 6) n)).2)) else some (some (Lib.encodeRune v, false, 6)) := by
  rw [seg_cons s k n (by omega) hn hk, seg_cons s (k + 1) n h hn hk1]
  unfold step
  simp only [h1, h2]
  rw [if_neg (by decide), if_pos trivial, if_pos trivial, show k + 1 + 1 = k + 2 from rfl, take4, seg_drop, show k + 2 + 4 = k + 6 from rfl]
  cases hex4 (seg s (k + 2) (min (k + 6) n)) <;> rfl
theorem hex4_len (s : ByteArray) (k n v : Nat) (hn : n ≤ s.size) (h : k + 2 ≤ n) (hx : hex4 (seg s (k + 2) (min (k + 6) n)) = some v) : k + 6 ≤ n := by
  unfold hex4 at hx
  split at hx
  · rename_i hl
    rw [seg_length s (k + 2) (min (k + 6) n) (by omega) (by omega)] at hl
    omega
  · simp at hx
theorem surr_le (v : Nat) (l : List UInt8) : (surr v l).2 ≤ 6 ∧ (surr v l).2 ≤ l.length := by
  unfold surr
  split
  · rename_i c e t
    split
    · split
      · rename_i lo hx
        split
        · unfold hex4 at hx
          split at hx
          · rename_i hl
            rw [List.length_take] at hl
            simp; omega
          · simp at hx
        · simp
      · simp
    · simp
  · simp
theorem surr_bd (v : Nat) (l : List UInt8) (hv : v < 65536) : (surr v l).1 < 1114112 := by
  unfold surr
  split
  · split
    · split
      · split
        · rename_i hp
          unfold pairUp at hp
          split at hp
          · simp at hp; omega
          · simp at hp
        · simp
      · simp
    · simp
  · simp
theorem enc_le (r : Int) : (Lib.encodeRune r).length ≤ 4 := by
  have := Lib.runeCells_le r
  rw [Lib.runeCells_length] at this
  omega

/-- a call that only makes memory leaves the builder. -/
theorem Bd.below {B : Nat} {l : List UInt8} {w w' : World} (h : Bd B l w) (hb : Below w.heap.size w w') : Bd B l w' := by
  have hlt := h.lt
  have key : ∀ q, Lib.BuilderAtF 66 5 B B q (Lib.byteCells l) w → Lib.BuilderAtF 66 5 B B q (Lib.byteCells l) w' := by
    rintro q ⟨hB, v, hk, hown, hne⟩
    refine ⟨hB, v, (hb.block B hlt).trans hk, ?_, hne⟩
    exact hown.kept (row := none) ⟨hb.os, hb.tape, hb.output, hb.size, fun k hk _ => hb.block k hk⟩ (by cases v.ownBlock <;> simp)
  exact h.elim (fun x => .inl (key _ x)) (fun x => .inr (key _ x))
theorem hexRune_none (t : ByteArray) (w : World) (h : hex4 t.data.toList = none) :
    Calls Try.prog 41 #[.string t] w fun e w' => e = .returned (.tuple #[.int .i32 0, .bool false]) ∧ Below w.heap.size w w' := by
  refine (hexRune_any t w).mono ?_
  rintro e w' ⟨rfl, hb⟩
  rw [h]; exact ⟨rfl, hb⟩
theorem hexRune_some (t : ByteArray) (v : Nat) (w : World) (h : hex4 t.data.toList = some v) :
    Calls Try.prog 41 #[.string t] w fun e w' => e = .returned (.tuple #[.int .i32 v, .bool true]) ∧ Below w.heap.size w w' := by
  refine (hexRune_any t w).mono ?_
  rintro e w' ⟨rfl, hb⟩
  rw [h]; exact ⟨rfl, hb⟩

/-- the round's end: some bytes more. -/
theorem Dr.next {p B : Nat} {s : ByteArray} {n : Nat} {r : Option (List UInt8 × Nat) × Bool} {w wr : World} {k : Nat} {acc bs : List UInt8} {m q : Bool} {j : Nat} {z : Int}
    (hr : rdr (seg s k n) acc m k = r) (hst : step (seg s k n) = some (some (bs, q, j))) (hz : z = ((k + j : Nat) : Int)) (hk : k + j ≤ n) (hB : Bd B (acc ++ bs) wr)
    (c0 : wr.cell? ⟨p, 0, none⟩ = some (.string s)) (c2 : wr.cell? ⟨p, 2, none⟩ = some (.int .i64 n)) (c25 : wr.cell? ⟨p, 25, none⟩ = some (.bool (m || q))) (cf : wr.frozen? ⟨p, 25, none⟩ = false)
    (hb : Below p w wr) (hl : acc.length ≤ k) (hbs : bs.length ≤ j) : Dr p B s n r w (.int .i64 z) wr := by
  refine ⟨k + j, acc ++ bs, m || q, by rw [hz], hk, hB, c0, c2, c25, cf, hb, by rw [List.length_append]; omega, ?_⟩
  rw [← hr, rdr_step _ _ _ _ _ _ _ hst, seg_drop]

theorem here {w : World} {p : Nat} {v u : Value} (h : w.cell? ⟨p, 25, none⟩ = some u) : (w.setCell ⟨p, 25, none⟩ v).cell? ⟨p, 25, none⟩ = some v := World.cell?_setCell_same' w ⟨p, 25, none⟩ v (by rw [h]; rfl)
theorem other {w : World} {p o : Nat} {v u : Value} (h : w.cell? ⟨p, o, none⟩ = some u) (ho : o ≠ 25 := by decide) : (w.setCell ⟨p, 25, none⟩ v).cell? ⟨p, o, none⟩ = some u :=
  (World.cell?_setCell_other w ⟨p, 25, none⟩ ⟨p, o, none⟩ v (fun e => ho (by cases e; rfl))).trans h
theorem DqPost.fail {p : Nat} {r : Option (List UInt8 × Nat) × Bool} {w wr : World} {l acc : List UInt8} {m : Bool} {k : Nat} (hr : rdr l acc m k = r) (hst : step l = none) (c25 : wr.cell? ⟨p, 25, none⟩ = some (.bool m))
    (hb : Below p w wr) : DqPost p r w (.returned (.tuple #[.string ⟨#[]⟩, .int .i64 0, .bool false])) wr := by
  rw [rdr_fail _ _ _ _ hst] at hr
  subst hr
  exact ⟨rfl, c25, hb⟩
theorem DqPost.done {p : Nat} {r : Option (List UInt8 × Nat) × Bool} {w wr : World} {l acc : List UInt8} {m : Bool} {k : Nat} (hr : rdr l acc m k = r) (hst : step l = some none) (c25 : wr.cell? ⟨p, 25, none⟩ = some (.bool m))
    (hb : Below p w wr) : DqPost p r w (.returned (.tuple #[.string ⟨acc.toArray⟩, .int .i64 ((k : Int) + 1), .bool true])) wr := by
  rw [rdr_quote _ _ _ _ hst] at hr
  subst hr
  exact ⟨rfl, c25, hb⟩
theorem DqPost.done' {p : Nat} {r : Option (List UInt8 × Nat) × Bool} {w wr : World} {l acc : List UInt8} {m : Bool} {k : Nat} {t : ByteArray} (hr : rdr l acc m k = r) (hst : step l = some none) (ht : t = ⟨acc.toArray⟩)
    (c25 : wr.cell? ⟨p, 25, none⟩ = some (.bool m)) (hb : Below p w wr) : DqPost p r w (.returned (.tuple #[.string t, .int .i64 ((k : Int) + 1), .bool true])) wr := by
  subst ht
  exact DqPost.done hr hst c25 hb
theorem esc_self (e : UInt8) (h : e = 34 ∨ e = 92) : esc1 e = some (e, false) := by unfold esc1; rw [if_pos h]

/-- below the builder nothing has turned: the parser's cells. -/
theorem keep {B p : Nat} {w w' : World} (h : Below B w w') (hp : p < B) (o : Nat) (v : Value) (hc : w.cell? ⟨p, o, none⟩ = some v) : w'.cell? ⟨p, o, none⟩ = some v := (h.cell (p := ⟨p, o, none⟩) hp).trans hc
theorem keepF {B p : Nat} {w w' : World} (h : Below B w w') (hp : p < B) (o : Nat) (hc : w.frozen? ⟨p, o, none⟩ = false) : w'.frozen? ⟨p, o, none⟩ = false := (h.frozen (p := ⟨p, o, none⟩) hp).trans hc

set_option maxHeartbeats 40000000 in
set_option maxRecDepth 100000 in
theorem dq_any (p : Nat) (s : ByteArray) (n a : Nat) (m : Bool) (w : World) (hs : s.size ≤ maxLen) (hsz : (s.size : Int) ≤ 1048576) (hp : p < w.heap.size) (h0 : w.cell? ⟨p, 0, none⟩ = some (.string s))
    (h2 : w.cell? ⟨p, 2, none⟩ = some (.int .i64 n)) (h25 : w.cell? ⟨p, 25, none⟩ = some (.bool m)) (hf : w.frozen? ⟨p, 25, none⟩ = false) (ha : a < n) (hn : n ≤ s.size) :
    Calls Try.prog 34 #[.pointer (some ⟨p, 0, none⟩), .int .i64 a] w (DqPost p (rdr (seg s (a + 1) n) [] m (a + 1)) w) := by
  have hs' := hs
  unfold maxLen at hs'
  have hn' : (n : Int) ≤ (s.size : Int) := by omega
  have hxs : (s.extract 0 n).size = n := by simp; omega
  go_enter Try.func34, Try.ntmps34
  go_wp2_with fail
  go_quiet (fail)
  have q0 : ∀ o, ((w.drewN nq).alloc o).cell? ⟨p, 0, none⟩ = some (.string s) := fun o => (World.cell?_alloc_old (w.drewN nq) o ⟨p, 0, none⟩ (Nat.ne_of_lt hp)).trans h0
  have q2 : ∀ o, ((w.drewN nq).alloc o).cell? ⟨p, 2, none⟩ = some (.int .i64 n) := fun o => (World.cell?_alloc_old (w.drewN nq) o ⟨p, 2, none⟩ (Nat.ne_of_lt hp)).trans h2
  have q25 : ∀ o, ((w.drewN nq).alloc o).cell? ⟨p, 25, none⟩ = some (.bool m) := fun o => (World.cell?_alloc_old (w.drewN nq) o ⟨p, 25, none⟩ (Nat.ne_of_lt hp)).trans h25
  have qf : ∀ o, ((w.drewN nq).alloc o).frozen? ⟨p, 25, none⟩ = false := fun o => (World.frozen?_alloc_old (w.drewN nq) o ⟨p, 25, none⟩ (Nat.ne_of_lt hp)).trans hf
  have qb : ∀ o, Below p w ((w.drewN nq).alloc o) := fun o => Below.alloc (a := w) (w := w.drewN nq) ⟨rfl, rfl, rfl, Nat.le_refl _, fun _ _ => rfl⟩ (Nat.le_of_lt hp) o
  go_wp2
  go_loop [8] (fun i => Lp s a n m i) (fun i => n - (intOf i).toNat)
  case atStart => exact Lp.mk (a + 1) _ (Nat.le_refl _) (by omega) (by omega) (by rw [seg_nil])
  case round =>
    obtain ⟨k, hk1, hk2, rfl, hpr⟩ := hrel
    have H : Hid (rdr (seg s (a + 1) n) [] m (a + 1) = rdr (seg s k n) (seg s (a + 1) k) m k) := hpr
    clear hpr
    by_cases hlt : k < n
    · have hks : k < s.size := by omega
      have hkx : k < (s.extract 0 n).size := by omega
      have e0 := ext_at s n k hlt hn hkx
      by_cases e1 : ((s[k].toNat : Int) != 34) = true
      · by_cases e2 : ((s[k].toNat : Int) != 92) = true
        · clear q0 q2 q25 qf qb
          go_wp2
          go_round
          case rel => exact Lp.next hk1 hlt hn hks rfl (neOf _ 34 e1) (neOf _ 92 e2) H.out
          case measure => simp [intOf]; omega
        · have e2' : ((s[k].toNat : Int) != 92) = false := by simpa using e2
          clear e2
          have e3 : ((s[k].toNat : Int) == 34) = false := by simpa [bne] using e1
          go_wp2_with fail
          refine (writeString w.heap.size [] (s.extract (a + 1) k) _ (Bd.fresh (w.drewN nq)) (by simp; omega)).mono ?_
          rintro e W1 ⟨rfl, hB1, hl1⟩
          have d0 := keep hl1 hp 0 _ (q0 (.cells #[.pointer none, .slice none 0 0] 66))
          have d2 := keep hl1 hp 2 _ (q2 (.cells #[.pointer none, .slice none 0 0] 66))
          have d25 := keep hl1 hp 25 _ (q25 (.cells #[.pointer none, .slice none 0 0] 66))
          have df := keepF hl1 hp 25 (qf (.cells #[.pointer none, .slice none 0 0] 66))
          have db : Below p w W1 := (qb (.cells #[.pointer none, .slice none 0 0] 66)).trans (hl1.mono (Nat.le_of_lt hp))
          rw [List.nil_append, ext_seg] at hB1
          clear q0 q2 q25 qf qb e0 e1 e2' e3 hl1 h0 h2 h25 hf
          go_wp2_with fail
          go_loopw [8] (fun i wr => Dr p w.heap.size s n (rdr (seg s (a + 1) n) [] m (a + 1)) w i wr) (fun i _ => n - (intOf i).toNat)
          case atStart => exact ⟨k, _, m, rfl, hk2, hB1, d0, d2, d25, df, db, by rw [seg_length s (a + 1) k hk1 (by omega)]; omega, H.out.symm⟩
          case round =>
            clear d0 d2 d25 df db hB1 H
            obtain ⟨j, acc, m2, rfl, hj, hB, c0, c2, c25, cf, hbel, hacc, hr⟩ := hrel
            have Hr : Hid (rdr (seg s j n) acc m2 j = rdr (seg s (a + 1) n) [] m (a + 1)) := hr
            clear hr
            by_cases hjn : j < n
            · have hjs : j < s.size := by omega
              cases e1 : ((s[j].toNat : Int) == 34) with
              | true =>
                have Hst : Hid _ := step_close s j n hjn hn hjs (byteEqN _ 34 e1)
                go_wp2_with fail
                refine (bldString w.heap.size acc _ hB).mono ?_
                rintro e W2 ⟨rfl, hl2⟩
                have g25 := keep hl2 hp 25 _ c25
                have gb : Below p w W2 := hbel.trans (hl2.mono (Nat.le_of_lt hp))
                go_wp2
                go_ret3
                exact DqPost.done Hr.out Hst.out g25 gb
              | false =>
                cases e2 : ((s[j].toNat : Int) != 92) with
                | true =>
                  have Hst : Hid _ := step_plain s j n hjn hn hjs (byteNeN _ 34 e1) (neOf _ 92 e2)
                  go_wp2_with fail
                  refine (writeByte w.heap.size acc s[j] _ _ hB rfl (by omega)).mono ?_
                  rintro e W2 ⟨rfl, hB2, hl2⟩
                  have g0 := keep hl2 hp 0 _ c0
                  have g2 := keep hl2 hp 2 _ c2
                  have g25 := keep hl2 hp 25 _ c25
                  have gf := keepF hl2 hp 25 cf
                  have gb : Below p w W2 := hbel.trans (hl2.mono (Nat.le_of_lt hp))
                  clear c0 c2 c25 cf hbel hB hl2
                  go_wp2
                  go_roundw
                  case rel => exact Dr.next Hr.out (Hst.out) (by omega) (by omega) hB2 g0 g2 (by rw [Bool.or_false]; exact g25) gf gb hacc (by simp)
                  case measure => simp [intOf]; omega
                | false =>
                  have ec : s[j] = 92 := eqOf _ 92 e2
                  have Ec : Hid (s[j] = 92) := ec
                  clear ec
                  by_cases hend : j + 1 = n
                  · have hst := step_end s j n hend hn hjs Ec.out
                    have Hst : Hid _ := hst
                    clear hst
                    have hend' : ((j : Int) + 1 == (n : Int)) = true := by simp; omega
                    go_wp2
                    go_ret3
                    exact DqPost.fail Hr.out Hst.out c25 hbel
                  · have hend' : ((j : Int) + 1 == (n : Int)) = false := by simp; omega
                    have hj1 : j + 1 < n := by omega
                    have hj1s : j + 1 < s.size := by omega
                    cases f34 : ((s[j + 1].toNat : Int) == 34) with
                    | true =>
                      have hst := step_esc s j n hj1 hn hjs hj1s Ec.out (by rw [byteEqN _ 34 f34]; decide) s[j + 1] false (esc_self _ (Or.inl (byteEqN _ 34 f34)))
                      have Hst : Hid _ := hst
                      clear hst
                      go_wp2_with fail
                      refine (writeByte w.heap.size acc s[j + 1] _ _ hB rfl (by omega)).mono ?_
                      rintro e W2 ⟨rfl, hB2, hl2⟩
                      have g0 := keep hl2 hp 0 _ c0
                      have g2 := keep hl2 hp 2 _ c2
                      have g25 := keep hl2 hp 25 _ c25
                      have gf := keepF hl2 hp 25 cf
                      have gb : Below p w W2 := hbel.trans (hl2.mono (Nat.le_of_lt hp))
                      clear c0 c2 c25 cf hbel hB hl2
                      go_wp2
                      go_roundw
                      case rel => exact Dr.next Hr.out (Hst.out) (by omega) (by omega) hB2 g0 g2 (by rw [Bool.or_false]; exact g25) gf gb hacc (by simp)
                      case measure => simp [intOf]; omega
                    | false =>
                      cases f92 : ((s[j + 1].toNat : Int) == 92) with
                      | true =>
                        have hst := step_esc s j n hj1 hn hjs hj1s Ec.out (by rw [byteEqN _ 92 f92]; decide) s[j + 1] false (esc_self _ (Or.inr (byteEqN _ 92 f92)))
                        have Hst : Hid _ := hst
                        clear hst
                        go_wp2_with fail
                        refine (writeByte w.heap.size acc s[j + 1] _ _ hB rfl (by omega)).mono ?_
                        rintro e W2 ⟨rfl, hB2, hl2⟩
                        have g0 := keep hl2 hp 0 _ c0
                        have g2 := keep hl2 hp 2 _ c2
                        have g25 := keep hl2 hp 25 _ c25
                        have gf := keepF hl2 hp 25 cf
                        have gb : Below p w W2 := hbel.trans (hl2.mono (Nat.le_of_lt hp))
                        clear c0 c2 c25 cf hbel hB hl2
                        go_wp2
                        go_roundw
                        case rel => exact Dr.next Hr.out (Hst.out) (by omega) (by omega) hB2 g0 g2 (by rw [Bool.or_false]; exact g25) gf gb hacc (by simp)
                        case measure => simp [intOf]; omega
                      | false =>
                        cases f47 : ((s[j + 1].toNat : Int) == 47) with
                        | true =>
                          have hst := step_esc s j n hj1 hn hjs hj1s Ec.out (by rw [byteEqN _ 47 f47]; decide) s[j + 1] true (by rw [byteEqN _ 47 f47]; rfl)
                          have Hst : Hid _ := hst
                          clear hst
                          go_wp2_with fail
                          refine (writeByte w.heap.size acc s[j + 1] _ _ hB rfl (by omega)).mono ?_
                          rintro e W2 ⟨rfl, hB2, hl2⟩
                          have g0 := keep hl2 hp 0 _ c0
                          have g2 := keep hl2 hp 2 _ c2
                          have g25 := keep hl2 hp 25 _ c25
                          have gf := keepF hl2 hp 25 cf
                          have gb : Below p w W2 := hbel.trans (hl2.mono (Nat.le_of_lt hp))
                          clear c0 c2 c25 cf hbel hB hl2
                          go_wp2
                          go_roundw
                          case rel => exact Dr.next Hr.out (Hst.out) (by omega) (by omega) (hB2.store ⟨p, 25, none⟩ hp _) (other g0) (other g2) (by rw [Bool.or_true]; exact here g25) (by rw [World.frozen?_setCell]; exact gf) (gb.setCell (Nat.le_refl p) _) hacc (by simp)
                          case measure => simp [intOf]; omega
                        | false =>
                          cases f110 : ((s[j + 1].toNat : Int) == 110) with
                          | true =>
                            have hst := step_esc s j n hj1 hn hjs hj1s Ec.out (by rw [byteEqN _ 110 f110]; decide) 10 false (by rw [byteEqN _ 110 f110]; rfl)
                            have Hst : Hid _ := hst
                            clear hst
                            go_wp2_with fail
                            refine (writeByte w.heap.size acc 10 _ _ hB rfl (by omega)).mono ?_
                            rintro e W2 ⟨rfl, hB2, hl2⟩
                            have g0 := keep hl2 hp 0 _ c0
                            have g2 := keep hl2 hp 2 _ c2
                            have g25 := keep hl2 hp 25 _ c25
                            have gf := keepF hl2 hp 25 cf
                            have gb : Below p w W2 := hbel.trans (hl2.mono (Nat.le_of_lt hp))
                            clear c0 c2 c25 cf hbel hB hl2
                            go_wp2
                            go_roundw
                            case rel => exact Dr.next Hr.out (Hst.out) (by omega) (by omega) hB2 g0 g2 (by rw [Bool.or_false]; exact g25) gf gb hacc (by simp)
                            case measure => simp [intOf]; omega
                          | false =>
                            cases f116 : ((s[j + 1].toNat : Int) == 116) with
                            | true =>
                              have hst := step_esc s j n hj1 hn hjs hj1s Ec.out (by rw [byteEqN _ 116 f116]; decide) 9 false (by rw [byteEqN _ 116 f116]; rfl)
                              have Hst : Hid _ := hst
                              clear hst
                              go_wp2_with fail
                              refine (writeByte w.heap.size acc 9 _ _ hB rfl (by omega)).mono ?_
                              rintro e W2 ⟨rfl, hB2, hl2⟩
                              have g0 := keep hl2 hp 0 _ c0
                              have g2 := keep hl2 hp 2 _ c2
                              have g25 := keep hl2 hp 25 _ c25
                              have gf := keepF hl2 hp 25 cf
                              have gb : Below p w W2 := hbel.trans (hl2.mono (Nat.le_of_lt hp))
                              clear c0 c2 c25 cf hbel hB hl2
                              go_wp2
                              go_roundw
                              case rel => exact Dr.next Hr.out (Hst.out) (by omega) (by omega) hB2 g0 g2 (by rw [Bool.or_false]; exact g25) gf gb hacc (by simp)
                              case measure => simp [intOf]; omega
                            | false =>
                              cases f114 : ((s[j + 1].toNat : Int) == 114) with
                              | true =>
                                have hst := step_esc s j n hj1 hn hjs hj1s Ec.out (by rw [byteEqN _ 114 f114]; decide) 13 false (by rw [byteEqN _ 114 f114]; rfl)
                                have Hst : Hid _ := hst
                                clear hst
                                go_wp2_with fail
                                refine (writeByte w.heap.size acc 13 _ _ hB rfl (by omega)).mono ?_
                                rintro e W2 ⟨rfl, hB2, hl2⟩
                                have g0 := keep hl2 hp 0 _ c0
                                have g2 := keep hl2 hp 2 _ c2
                                have g25 := keep hl2 hp 25 _ c25
                                have gf := keepF hl2 hp 25 cf
                                have gb : Below p w W2 := hbel.trans (hl2.mono (Nat.le_of_lt hp))
                                clear c0 c2 c25 cf hbel hB hl2
                                go_wp2
                                go_roundw
                                case rel => exact Dr.next Hr.out (Hst.out) (by omega) (by omega) hB2 g0 g2 (by rw [Bool.or_false]; exact g25) gf gb hacc (by simp)
                                case measure => simp [intOf]; omega
                              | false =>
                                cases f98 : ((s[j + 1].toNat : Int) == 98) with
                                | true =>
                                  have hst := step_esc s j n hj1 hn hjs hj1s Ec.out (by rw [byteEqN _ 98 f98]; decide) 8 false (by rw [byteEqN _ 98 f98]; rfl)
                                  have Hst : Hid _ := hst
                                  clear hst
                                  go_wp2_with fail
                                  refine (writeByte w.heap.size acc 8 _ _ hB rfl (by omega)).mono ?_
                                  rintro e W2 ⟨rfl, hB2, hl2⟩
                                  have g0 := keep hl2 hp 0 _ c0
                                  have g2 := keep hl2 hp 2 _ c2
                                  have g25 := keep hl2 hp 25 _ c25
                                  have gf := keepF hl2 hp 25 cf
                                  have gb : Below p w W2 := hbel.trans (hl2.mono (Nat.le_of_lt hp))
                                  clear c0 c2 c25 cf hbel hB hl2
                                  go_wp2
                                  go_roundw
                                  case rel => exact Dr.next Hr.out (Hst.out) (by omega) (by omega) hB2 g0 g2 (by rw [Bool.or_false]; exact g25) gf gb hacc (by simp)
                                  case measure => simp [intOf]; omega
                                | false =>
                                  cases f102 : ((s[j + 1].toNat : Int) == 102) with
                                  | true =>
                                    have hst := step_esc s j n hj1 hn hjs hj1s Ec.out (by rw [byteEqN _ 102 f102]; decide) 12 false (by rw [byteEqN _ 102 f102]; rfl)
                                    have Hst : Hid _ := hst
                                    clear hst
                                    go_wp2_with fail
                                    refine (writeByte w.heap.size acc 12 _ _ hB rfl (by omega)).mono ?_
                                    rintro e W2 ⟨rfl, hB2, hl2⟩
                                    have g0 := keep hl2 hp 0 _ c0
                                    have g2 := keep hl2 hp 2 _ c2
                                    have g25 := keep hl2 hp 25 _ c25
                                    have gf := keepF hl2 hp 25 cf
                                    have gb : Below p w W2 := hbel.trans (hl2.mono (Nat.le_of_lt hp))
                                    clear c0 c2 c25 cf hbel hB hl2
                                    go_wp2
                                    go_roundw
                                    case rel => exact Dr.next Hr.out (Hst.out) (by omega) (by omega) hB2 g0 g2 (by rw [Bool.or_false]; exact g25) gf gb hacc (by simp)
                                    case measure => simp [intOf]; omega
                                  | false =>
                                    cases f117 : ((s[j + 1].toNat : Int) == 117) with
                                    | true =>
                                      have hst := step_u s j n hj1 hn hjs hj1s Ec.out (byteEqN _ 117 f117)
                                      have Hst : Hid _ := hst
                                      clear hst
                                      have hwp : p < wr.heap.size := Nat.lt_of_lt_of_le hp hbel.size
                                      by_cases hq : j + 6 ≤ n
                                      · have hmin : min ((j : Int) + 6) (n : Int) = (j : Int) + 6 := by omega
                                        have hmn : min (j + 6) n = j + 6 := by omega
                                        rw [hmn] at Hst
                                        clear hmn
                                        have i1 : (0 : Int) ≤ (j : Int) + 2 := by omega
                                        have i2 : (j : Int) + 2 ≤ (j : Int) + 6 := by omega
                                        have i3 : (j : Int) + 6 ≤ (s.size : Int) := by omega
                                        have i4 : IntKind.i64.wrap ((j : Int) + 2) = (j : Int) + 2 := IntWalk.i64_in _ ⟨by omega, by omega⟩
                                        have i5 : IntKind.i64.wrap ((j : Int) + 6) = (j : Int) + 6 := IntWalk.i64_in _ ⟨by omega, by omega⟩
                                        have G : Hid ((s.extract (j + 2) (j + 6)).data.toList = seg s (j + 2) (j + 6)) := ext_seg s (j + 2) (j + 6)
                                        cases hx : hex4 (seg s (j + 2) (j + 6)) with
                                        | none =>
                                          have Hs2 : Hid (step (seg s j n) = none) := by show step (seg s j n) = none; rw [Hst.out, hx]
                                          have Hx : Hid (hex4 (s.extract (j + 2) (j + 6)).data.toList = none) := by show hex4 _ = none; rw [G.out, hx]
                                          clear Hst hx
                                          go_wp2_with fail
                                          go_region_held3 (fun w' => w'.cell? ⟨p, 0, none⟩ = some (.string s) ∧ w'.cell? ⟨p, 2, none⟩ = some (.int .i64 n)) (first | go_keep | exact ⟨keep hl2 hwp 0 _ c0, keep hl2 hwp 2 _ c2⟩) ((go_at_call 41; refine (hexRune_none _ _ Hx.out).mono ?_; rintro e W2 ⟨rfl, hl2⟩))
                                          go_wp2
                                          go_ret3
                                          exact DqPost.fail Hr.out Hs2.out (keep hl2 hwp 25 _ c25) (hbel.drew.trans (hl2.mono (Nat.le_of_lt hwp)))
                                        | some v =>
                                          have hv : v < 65536 := hex4_lt _ _ hx
                                          have Hx : Hid (hex4 (s.extract (j + 2) (j + 6)).data.toList = some v) := by show hex4 _ = some v; rw [G.out, hx]
                                          cases hsur : isSur v with
                                          | false =>
                                            have Hs2 : Hid (step (seg s j n) = some (some (Lib.encodeRune v, false, 6))) := by show step (seg s j n) = _; rw [Hst.out, hx]; simp only [hsur]; rfl
                                            have Hsur : Hid (isSur v = false) := hsur
                                            clear Hst hx hsur
                                            go_wp2_with fail
                                            go_region_held3 (fun w' => w'.cell? ⟨p, 0, none⟩ = some (.string s) ∧ w'.cell? ⟨p, 2, none⟩ = some (.int .i64 n)) (first | go_keep | exact ⟨keep hl2 hwp 0 _ c0, keep hl2 hwp 2 _ c2⟩) ((go_at_call 41; refine (hexRune_some _ v _ Hx.out).mono ?_; rintro e W2 ⟨rfl, hl2⟩))
                                            have g0 := keep hl2 hwp 0 _ c0
                                            have g2 := keep hl2 hwp 2 _ c2
                                            have g25 := keep hl2 hwp 25 _ c25
                                            have gf := keepF hl2 hwp 25 cf
                                            have gb : Below p w W2 := hbel.drew.trans (hl2.mono (Nat.le_of_lt hwp))
                                            have gB : Bd w.heap.size acc W2 := (show Bd w.heap.size acc wr.drew from hB).below hl2
                                            clear c0 c2 c25 cf hbel hB hl2
                                            go_wp2_with fail
                                            refine (isSurrogate_any v _).mono ?_
                                            rintro e w' ⟨he, rfl⟩
                                            rw [Hsur.out] at he
                                            subst he
                                            go_wp2_with fail
                                            refine (writeRune w.heap.size acc v _ gB (by omega) (by omega) (by omega)).mono ?_
                                            rintro e W3 ⟨rfl, hB3, hl3⟩
                                            have k0 := keep hl3 hp 0 _ g0
                                            have k2 := keep hl3 hp 2 _ g2
                                            have k25 := keep hl3 hp 25 _ g25
                                            have kf := keepF hl3 hp 25 gf
                                            have kb : Below p w W3 := gb.trans (hl3.mono (Nat.le_of_lt hp))
                                            clear g0 g2 g25 gf gb gB hl3
                                            have hle := enc_le v
                                            go_wp2
                                            go_roundw
                                            case rel => exact Dr.next Hr.out Hs2.out (by omega) (by omega) hB3 k0 k2 (by rw [Bool.or_false]; exact k25) kf kb hacc (by omega)
                                            case measure => simp [intOf]; omega
                                          | true =>
                                            have Hs2 : Hid (step (seg s j n) = some (some (Lib.encodeRune (surr v (seg s (j + 6) n)).1, true, 6 + (surr v (seg s (j + 6) n)).2))) := by show step (seg s j n) = _; rw [Hst.out, hx]; simp only [hsur]; rfl
                                            have Hsur : Hid (isSur v = true) := hsur
                                            clear Hst hx hsur
                                            go_wp2_with fail
                                            go_region_held3 (fun w' => w'.cell? ⟨p, 0, none⟩ = some (.string s) ∧ w'.cell? ⟨p, 2, none⟩ = some (.int .i64 n)) (first | go_keep | exact ⟨keep hl2 hwp 0 _ c0, keep hl2 hwp 2 _ c2⟩) ((go_at_call 41; refine (hexRune_some _ v _ Hx.out).mono ?_; rintro e W2 ⟨rfl, hl2⟩))
                                            have g0 := keep hl2 hwp 0 _ c0
                                            have g2 := keep hl2 hwp 2 _ c2
                                            have g25 := keep hl2 hwp 25 _ c25
                                            have gf := keepF hl2 hwp 25 cf
                                            have gb : Below p w W2 := hbel.drew.trans (hl2.mono (Nat.le_of_lt hwp))
                                            have gB : Bd w.heap.size acc W2 := (show Bd w.heap.size acc wr.drew from hB).below hl2
                                            clear c0 c2 c25 cf hbel hB hl2
                                            go_wp2_with fail
                                            refine (isSurrogate_any v _).mono ?_
                                            rintro e w' ⟨he, rfl⟩
                                            rw [Hsur.out] at he
                                            subst he
                                            go_wp2_with fail
                                            have sl := surr_le v (seg s (j + 6) n)
                                            rw [seg_length s (j + 6) n hq hn] at sl
                                            have sb := surr_bd v (seg s (j + 6) n) hv
                                            refine (surrogate_any p s n (j + 6) v _ hs (other g0) (other g2) hn hq hsz).mono ?_
                                            rintro e W4 ⟨rfl, hl4⟩
                                            unfold surVal
                                            generalize hX : surr v (seg s (j + 6) n) = X at Hs2 sl sb ⊢
                                            obtain ⟨rn, kn⟩ := X
                                            clear hX
                                            simp only at sl sb Hs2
                                            obtain ⟨s1, s2⟩ := sl
                                            have hw4 : p < (W2.setCell ⟨p, 25, none⟩ (.bool true)).heap.size := by rw [World.size_setCell]; exact Nat.lt_of_lt_of_le hp gb.size
                                            have k0 := keep hl4 hw4 0 _ (other g0)
                                            have k2 := keep hl4 hw4 2 _ (other g2)
                                            have k25 := keep hl4 hw4 25 _ (here g25)
                                            have kf : W4.frozen? ⟨p, 25, none⟩ = false := keepF hl4 hw4 25 (by rw [World.frozen?_setCell]; exact gf)
                                            have kb : Below p w W4 := (gb.setCell (p := ⟨p, 25, none⟩) (Nat.le_refl p) _).trans (hl4.mono (Nat.le_of_lt hw4))
                                            have kB : Bd w.heap.size acc W4 := (gB.store ⟨p, 25, none⟩ hp _).below hl4
                                            clear g0 g2 g25 gf gb gB hl4 hw4
                                            go_wp2_with fail
                                            refine (writeRune w.heap.size acc rn _ kB (by omega) (by omega) (by omega)).mono ?_
                                            rintro e W3 ⟨rfl, hB3, hl3⟩
                                            have o0 := keep hl3 hp 0 _ k0
                                            have o2 := keep hl3 hp 2 _ k2
                                            have o25 := keep hl3 hp 25 _ k25
                                            have of_ := keepF hl3 hp 25 kf
                                            have ob : Below p w W3 := kb.trans (hl3.mono (Nat.le_of_lt hp))
                                            clear k0 k2 k25 kf kb kB hl3
                                            have hle := enc_le rn
                                            go_wp2
                                            go_roundw
                                            case rel => exact Dr.next Hr.out Hs2.out (by omega) (by omega) hB3 o0 o2 (by rw [Bool.or_true]; exact o25) of_ ob hacc (by omega)
                                            case measure => simp [intOf]; omega
                                      · have hmin : min ((j : Int) + 6) (n : Int) = (n : Int) := by omega
                                        have hmn : min (j + 6) n = n := by omega
                                        rw [hmn] at Hst
                                        clear hmn
                                        have i1 : (0 : Int) ≤ (j : Int) + 2 := by omega
                                        have i2 : (j : Int) + 2 ≤ (n : Int) := by omega
                                        have i4 : IntKind.i64.wrap ((j : Int) + 2) = (j : Int) + 2 := IntWalk.i64_in _ ⟨by omega, by omega⟩
                                        have i5 : IntKind.i64.wrap ((j : Int) + 6) = (j : Int) + 6 := IntWalk.i64_in _ ⟨by omega, by omega⟩
                                        have hx : hex4 (seg s (j + 2) n) = none := by unfold hex4; rw [if_neg]; rw [seg_length s (j + 2) n (by omega) hn]; omega
                                        have Hs2 : Hid (step (seg s j n) = none) := by show step (seg s j n) = none; rw [Hst.out, hx]
                                        have Hx : Hid (hex4 (s.extract (j + 2) n).data.toList = none) := by show hex4 _ = none; rw [ext_seg, hx]
                                        clear Hst hx
                                        go_wp2_with fail
                                        go_region_held3 (fun w' => w'.cell? ⟨p, 0, none⟩ = some (.string s) ∧ w'.cell? ⟨p, 2, none⟩ = some (.int .i64 n)) (first | go_keep | exact ⟨keep hl2 hwp 0 _ c0, keep hl2 hwp 2 _ c2⟩) ((go_at_call 41; refine (hexRune_none _ _ Hx.out).mono ?_; rintro e W2 ⟨rfl, hl2⟩))
                                        go_wp2
                                        go_ret3
                                        exact DqPost.fail Hr.out Hs2.out (keep hl2 hwp 25 _ c25) (hbel.drew.trans (hl2.mono (Nat.le_of_lt hwp)))
                                    | false =>
                                      have eb : esc1 s[j + 1] = none := by
                                        unfold esc1
                                        rw [if_neg (fun h => h.elim (byteNeN _ 34 f34) (byteNeN _ 92 f92)), if_neg (byteNeN _ 47 f47), if_neg (byteNeN _ 110 f110), if_neg (byteNeN _ 116 f116), if_neg (byteNeN _ 114 f114), if_neg (byteNeN _ 98 f98), if_neg (byteNeN _ 102 f102)]
                                      have hst := step_bad s j n hj1 hn hjs hj1s Ec.out (byteNeN _ 117 f117) eb
                                      have Hst : Hid _ := hst
                                      clear hst eb
                                      go_wp2
                                      go_ret3
                                      exact DqPost.fail Hr.out Hst.out c25 hbel
            · have hjn' : j = n := by omega
              have hst : step (seg s j n) = none := by rw [hjn', seg_nil]; rfl
              have Hst : Hid _ := hst
              clear hst hjn'
              go_wp2
              go_ret3
              exact DqPost.fail Hr.out Hst.out c25 hbel
      · have e1' : ((s[k].toNat : Int) != 34) = false := by simpa using e1
        clear e1
        have e3 : ((s[k].toNat : Int) == 34) = true := by simpa [bne] using e1'
        have Hst : Hid _ := step_close s k n hlt hn hks (eqOf _ 34 e1')
        have Hxx : Hid _ := ext_ext s (a + 1) k n (Nat.le_of_lt hlt)
        clear q0 q2 q25 qf qb
        go_wp2
        go_ret3
        exact DqPost.done' H.out.symm Hst.out Hxx.out h25 ⟨rfl, rfl, rfl, Nat.le_refl _, fun _ _ => rfl⟩
    · have hkn : Hid (k = n) := by show k = n; omega
      go_wp2_with fail
      refine (writeString w.heap.size [] (s.extract (a + 1) k) _ (Bd.fresh (w.drewN nq)) (by simp; omega)).mono ?_
      rintro e W1 ⟨rfl, hB1, hl1⟩
      have d2 := keep hl1 hp 2 _ (q2 (.cells #[.pointer none, .slice none 0 0] 66))
      have d25 := keep hl1 hp 25 _ (q25 (.cells #[.pointer none, .slice none 0 0] 66))
      have db : Below p w W1 := (qb (.cells #[.pointer none, .slice none 0 0] 66)).trans (hl1.mono (Nat.le_of_lt hp))
      have hst : step (seg s k n) = none := by rw [hkn.out, seg_nil]; rfl
      have Hst : Hid _ := hst
      clear q0 q2 q25 qf qb hl1 hB1 h0 h2 h25 hf hst hkn
      go_wp2_with fail
      go_loop [8] (fun i => i = .int .i64 k) (fun _ => 0)
      case atStart => rfl
      case round =>
        subst hrel
        go_wp2
        go_ret3
        exact DqPost.fail H.out.symm Hst.out d25 db
end Go.Proofs.Qxb6615727a
