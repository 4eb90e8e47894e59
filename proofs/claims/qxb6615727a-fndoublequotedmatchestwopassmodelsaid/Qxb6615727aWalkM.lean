/-
  Seat b6615727a: the two-pass model's first pass: tokens, and the two rows that it fills.
-/
import Derived.Test.Qxb6615727aPlainM
import Derived.Test.Qxb6615727aWalkD
import Derived.Test.Qxb6615727aWalkL
namespace Go.Proofs.Qxb6615727a
open Go.RowKit

theorem tstep_plain (s : ByteArray) (k n : Nat) (h : k < n) (hn : n ≤ s.size) (hk : k < s.size) (h1 : s[k] ≠ 34) (h2 : s[k] ≠ 92) : tstep (seg s k n) = some (some ((false, s[k].toNat), false, 1)) := by
  rw [seg_cons s k n h hn hk]; simp [tstep, h1, h2]
theorem tstep_close (s : ByteArray) (k n : Nat) (h : k < n) (hn : n ≤ s.size) (hk : k < s.size) (h1 : s[k] = 34) : tstep (seg s k n) = some none := by
  rw [seg_cons s k n h hn hk]; simp [tstep, h1]
theorem tstep_out (s : ByteArray) (n : Nat) : tstep (seg s n n) = none := by rw [seg_nil]; rfl
theorem tstep_end (s : ByteArray) (k n : Nat) (h : k + 1 = n) (hn : n ≤ s.size) (hk : k < s.size) (h1 : s[k] = 92) : tstep (seg s k n) = none := by
  rw [seg_cons s k n (by omega) hn hk, h, seg_nil]; simp [tstep, h1]
theorem tstep_esc (s : ByteArray) (k n : Nat) (h : k + 1 < n) (hn : n ≤ s.size) (hk : k < s.size) (hk1 : k + 1 < s.size) (h1 : s[k] = 92) (h2 : s[k + 1] ≠ 117) (b : UInt8) (q : Bool) (h3 : esc1 s[k + 1] = some (b, q)) :
    tstep (seg s k n) = some (some ((false, b.toNat), q, 2)) := by
  rw [seg_cons s k n (by omega) hn hk, seg_cons s (k + 1) n h hn hk1]; simp [tstep, h1, h2, h3]
theorem tstep_bad (s : ByteArray) (k n : Nat) (h : k + 1 < n) (hn : n ≤ s.size) (hk : k < s.size) (hk1 : k + 1 < s.size) (h1 : s[k] = 92) (h2 : s[k + 1] ≠ 117) (h3 : esc1 s[k + 1] = none) :
    tstep (seg s k n) = none := by
  rw [seg_cons s k n (by omega) hn hk, seg_cons s (k + 1) n h hn hk1]; simp [tstep, h1, h2, h3]
theorem tstep_u (s : ByteArray) (k n : Nat) (h : k + 1 < n) (hn : n ≤ s.size) (hk : k < s.size) (hk1 : k + 1 < s.size) (h1 : s[k] = 92) (h2 : s[k + 1] = 117) :
    tstep (seg s k n) = match hex4 (seg s (k + 2) (min (k + 6) n)) with
      | none => none
      | some v => some (some ((true, v), isSur v, 6)) := by
  rw [seg_cons s k n (by omega) hn hk, seg_cons s (k + 1) n h hn hk1]
  unfold tstep
  simp only [h1, h2]
  rw [if_neg (by decide), if_pos trivial, if_pos trivial, show k + 1 + 1 = k + 2 from rfl, take4]
  cases hex4 (seg s (k + 2) (min (k + 6) n)) <;> rfl
theorem tstep_ushort (s : ByteArray) (k n : Nat) (h : k + 1 < n) (hn : n ≤ s.size) (hk : k < s.size) (hk1 : k + 1 < s.size) (h1 : s[k] = 92) (h2 : s[k + 1] = 117) (h3 : n < k + 6) : tstep (seg s k n) = none := by
  rw [tstep_u s k n h hn hk hk1 h1 h2]
  cases hx : hex4 (seg s (k + 2) (min (k + 6) n)) with
  | none => rfl
  | some v => have := hex4_len s k n v hn (by omega) hx; omega
theorem tstep_ubad (s : ByteArray) (k n : Nat) (h : k + 6 ≤ n) (hn : n ≤ s.size) (hk : k < s.size) (hk1 : k + 1 < s.size) (h1 : s[k] = 92) (h2 : s[k + 1] = 117) (h3 : hex4 (seg s (k + 2) (k + 6)) = none) : tstep (seg s k n) = none := by
  rw [tstep_u s k n (by omega) hn hk hk1 h1 h2, Nat.min_eq_left h, h3]
theorem tstep_ugood (s : ByteArray) (k n v : Nat) (h : k + 6 ≤ n) (hn : n ≤ s.size) (hk : k < s.size) (hk1 : k + 1 < s.size) (h1 : s[k] = 92) (h2 : s[k + 1] = 117) (h3 : hex4 (seg s (k + 2) (k + 6)) = some v) :
    tstep (seg s k n) = some (some ((true, v), isSur v, 6)) := by
  rw [tstep_u s k n (by omega) hn hk hk1 h1 h2, Nat.min_eq_left h, h3]

/-- the answer as a value. -/
def dqm (r : Option (List (Bool × Nat) × Nat) × Bool) : Value := match r with
  | (none, m) => .tuple #[.string ⟨#[]⟩, .int .i64 0, .bool false, .bool m]
  | (some (ts, c), m) => .tuple #[.string ⟨(dec ts).toArray⟩, .int .i64 ((c : Int) + 1), .bool true, .bool m]
def DmPost (r : Option (List (Bool × Nat) × Nat) × Bool) (w : World) (e : Ending) (w' : World) : Prop := e = .returned (dqm r) ∧ Below w.heap.size w w'

def kc (t : Bool × Nat) : Value := .int .u8 (if t.1 then 117 else 98)
def uc (t : Bool × Nat) : Value := .int .i32 (t.2 : Int)
/-- the two rows. -/
def KR (B : Nat) (ts : List (Bool × Nat)) (k : Value) (w : World) : Prop := w.ownsRow B 5 1 k ts.length (ts.map kc)
def UR (B : Nat) (ts : List (Bool × Nat)) (u : Value) (w : World) : Prop := w.ownsRow B 21 1 u ts.length (ts.map uc)
theorem apart {w : World} {B B2 : Nat} {e f : TypeId} (hef : e ≠ f) {v u : Value} {n m : Nat} {xs ys : List Value} (h : w.ownsRow B e 1 v n xs) (k : w.ownsRow B2 f 1 u m ys) : u.ownBlock = none ∨ u.ownBlock ≠ v.ownBlock := by
  rcases k.2 with ⟨rfl, _⟩ | ⟨g, cap, cur, rfl, _, hg, _⟩
  · exact Or.inl rfl
  · right
    rcases h.2 with ⟨rfl, _⟩ | ⟨g2, cap2, cur2, rfl, _, hg2, _⟩
    · simp [Value.ownBlock]
    · intro he
      have : g = g2 := by simpa [Value.ownBlock] using he
      subst this
      rw [hg] at hg2
      simp only [Option.some.injEq, Obj.cells.injEq] at hg2
      exact hef hg2.2.1.symm
/-- the kinds' row has grown by one. -/
theorem kgrow {B : Nat} {w W W1 : World} {o : Obj} {ts : List (Bool × Nat)} {k k' u : Value} {x : Value} {t : Bool × Nat} (hk : KR B ts k W) (hu : UR B ts u W) (hb : Below B w W) (hB : B ≤ w.heap.size) (hx : x = kc t)
    (ho : W1.ownsRow B 5 1 k' (ts.length + 1) (ts.map kc ++ [x])) (hg : (W.alloc o).grownBy W1 k.ownBlock) : KR B (ts ++ [t]) k' W1 ∧ UR B ts u W1 ∧ Below B w W1 := by
  have hBW : B ≤ W.heap.size := Nat.le_trans hB hb.size
  refine ⟨?_, ?_, ?_⟩
  · unfold KR; rw [List.length_append, List.map_append]; subst hx; exact ho
  · exact World.ownsRow.kept (World.ownsRow.alloc hu o) hg (apart (by decide) hk hu)
  · exact (hb.alloc hBW o).grown hg (by simp only [World.size_alloc]; omega) (fun j e => (World.ownsRow.lt hk j e).1)
theorem ugrow {B : Nat} {w W W1 : World} {o : Obj} {ts : List (Bool × Nat)} {t : Bool × Nat} {k u u' : Value} {x : Value} (hk : KR B (ts ++ [t]) k W) (hu : UR B ts u W) (hb : Below B w W) (hB : B ≤ w.heap.size) (hx : x = uc t)
    (ho : W1.ownsRow B 21 1 u' (ts.length + 1) (ts.map uc ++ [x])) (hg : (W.alloc o).grownBy W1 u.ownBlock) : KR B (ts ++ [t]) k W1 ∧ UR B (ts ++ [t]) u' W1 ∧ Below B w W1 := by
  have hBW : B ≤ W.heap.size := Nat.le_trans hB hb.size
  refine ⟨?_, ?_, ?_⟩
  · exact World.ownsRow.kept (World.ownsRow.alloc hk o) hg (apart (by decide) hu hk)
  · unfold UR; rw [List.length_append, List.map_append]; subst hx; exact ho
  · exact (hb.alloc hBW o).grown hg (by simp only [World.size_alloc]; omega) (fun j e => (World.ownsRow.lt hu j e).1)

/-- the walk's state in the first loop. -/
def Tm (B : Nat) (s : ByteArray) (n : Nat) (r : Option (List (Bool × Nat) × Nat) × Bool) (w : World) (k u e j c : Value) (wr : World) : Prop :=
  ∃ (i : Nat) (ts : List (Bool × Nat)) (m : Bool), j = .int .i64 i ∧ c = .int .i64 (-1) ∧ e = .bool m ∧ i ≤ n ∧ ts.length ≤ i ∧ KR B ts k wr ∧ UR B ts u wr ∧ Below B w wr ∧ (∀ t ∈ ts, t.2 < 65536) ∧ tkr (seg s i n) ts m i = r
theorem Tm.next {B : Nat} {s : ByteArray} {n : Nat} {r : Option (List (Bool × Nat) × Nat) × Bool} {w wr : World} {k u : Value} {i d : Nat} {ts : List (Bool × Nat)} {t : Bool × Nat} {m q m2 : Bool} {z : Int}
    (hr : tkr (seg s i n) ts m i = r) (hst : tstep (seg s i n) = some (some (t, q, d))) (hz : z = ((i + d : Nat) : Int)) (hd : i + d ≤ n) (hl : ts.length ≤ i) (hm : m2 = (m || q)) (hbd : ∀ t ∈ ts, t.2 < 65536) (ht : t.2 < 65536)
    (h : KR B (ts ++ [t]) k wr ∧ UR B (ts ++ [t]) u wr ∧ Below B w wr) : Tm B s n r w k u (.bool m2) (.int .i64 z) (.int .i64 (-1)) wr := by
  have hd1 := tstep_pos _ _ _ _ hst
  refine ⟨i + d, ts ++ [t], m2, by rw [hz], rfl, rfl, hd, by rw [List.length_append]; simp; omega, h.1, h.2.1, h.2.2, ?_, ?_⟩
  · intro x hx
    rcases List.mem_append.mp hx with hx | hx
    · exact hbd x hx
    · simp at hx; subst hx; exact ht
  rw [← hr, tkr_step _ _ _ _ _ _ _ hst, seg_drop, hm]
theorem DmPost.fail {r : Option (List (Bool × Nat) × Nat) × Bool} {w wr : World} {l : List UInt8} {ts : List (Bool × Nat)} {m : Bool} {i : Nat} (hr : tkr l ts m i = r) (hst : tstep l = none) (hb : Below w.heap.size w wr) :
    DmPost r w (.returned (.tuple #[.string ⟨#[]⟩, .int .i64 0, .bool false, .bool m])) wr := by
  rw [tkr_fail _ _ _ _ hst] at hr
  subst hr
  exact ⟨rfl, hb⟩
theorem runeInfo : ∃ i, Try.prog.info? 21 = some i ∧ i.zero = some (.int .i32 0) ∧ i.size = 1 ∧ i.bytes = 4 := info_parts (by kernel_rfl)
end Go.Proofs.Qxb6615727a
