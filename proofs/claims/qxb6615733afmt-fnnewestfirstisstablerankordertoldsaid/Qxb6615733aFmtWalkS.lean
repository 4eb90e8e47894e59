/-
  Seat b6615733aF: sort.SliceStable's own functions, walked over whatever 'less' and 'swap' that keep to a row.
-/
import Derived.Test.Qxb6615733aFmtRows
import Derived.Test.Qxb6615733aFmtPlainS
import Derived.WalkKit
import Derived.WalkSpells
import Derived.WalkLawsBesides
namespace Go.Proofs.Qxb6615733aFmt
open Go.RowKit

/-- what was laid from B on stands. -/
def Up (B : Nat) (W W' : World) : Prop := W.heap.size ≤ W'.heap.size ∧ ∀ k, B ≤ k → k < W.heap.size → W'.heap[k]? = W.heap[k]?
theorem Up.refl (B : Nat) (W : World) : Up B W W := ⟨Nat.le_refl _, fun _ _ _ => rfl⟩
theorem Up.trans {B : Nat} {a b c : World} (h : Up B a b) (k : Up B b c) : Up B a c := ⟨Nat.le_trans h.1 k.1, fun x h1 h2 => by rw [k.2 x h1 (Nat.lt_of_lt_of_le h2 h.1), h.2 x h1 h2]⟩
theorem Up.alloc {B : Nat} {a w : World} (h : Up B a w) (o : Obj) : Up B a (w.alloc o) :=
  ⟨Nat.le_trans h.1 (by simp), fun x h1 h2 => by rw [Below.heap_alloc w o x (Nat.lt_of_lt_of_le h2 h.1)]; exact h.2 x h1 h2⟩
theorem Up.cell {B : Nat} {w w' : World} (h : Up B w w') {p : Addr} (h1 : B ≤ p.block) (h2 : p.block < w.heap.size) : w'.cell? p = w.cell? p := World.cell?_of_block (w := w) (h.2 p.block h1 h2)

/-- the two function values, and what is asked of them. -/
structure Fns where
  g : Nat
  lb : Array Value
  sf : Nat
  sb : Array Value
  n : Nat
  B : Nat
  lt : Nat → Nat → Bool
  I : (Nat → Nat) → World → Prop
structure Fns.Ok (F : Fns) : Prop where
  eg : ∀ args w, (callFunc F.g args).run Tryf.prog w = .ok (.enter F.g args) w
  size : ∀ d w, F.I d w → F.B ≤ w.heap.size
  alloc : ∀ d w o, F.I d w → F.I d (w.alloc o)
  less : ∀ d w, F.I d w → ∀ i j : Nat, i < F.n → j < F.n → Calls Tryf.prog F.g (#[.int .i64 i, .int .i64 j] ++ F.lb) w fun e w' => e = .returned (.bool (F.lt (d i) (d j))) ∧ F.I d w' ∧ Up F.B w w'
  swap : ∀ d w, F.I d w → ∀ i j : Nat, i < F.n → j < F.n → i ≠ j → ∃ w', (callFunc F.sf (#[.int .i64 i, .int .i64 j] ++ F.sb)).run Tryf.prog w = .ok (.value (.tuple #[])) w' ∧ F.I (swp d i j) w' ∧ Up F.B w w'
def Fns.data (F : Fns) : Value := .agg #[.func (.func F.g) #[] F.lb, .func (.func F.sf) #[] F.sb]
def Fns.box (F : Fns) : Obj := .cells #[.func (.func F.g) #[] F.lb, .func (.func F.sf) #[] F.sb] 71
/-- what a function of the sort leaves: R: how the row stands to what it was. -/
def Fns.Post (F : Fns) (w : World) (R : (Nat → Nat) → Prop) (e : Ending) (w' : World) : Prop := e = .returned (.tuple #[]) ∧ ∃ d', R d' ∧ F.I d' w' ∧ Up F.B w w'
/-- what a loop keeps of the world. -/
def Fns.At (F : Fns) (w : World) (d : Nat → Nat) (wr : World) : Prop := F.I d wr ∧ Up F.B (w.alloc F.box) wr

theorem Fns.At.cells {F : Fns} {w wr : World} {d : Nat → Nat} (hB : F.B ≤ w.heap.size) (h : F.At w d wr) : wr.cell? ⟨w.heap.size, 0, none⟩ = some (.func (.func F.g) #[] F.lb) ∧ wr.cell? ⟨w.heap.size, 1, none⟩ = some (.func (.func F.sf) #[] F.sb) := by
  constructor
  · rw [h.2.cell (p := ⟨w.heap.size, 0, none⟩) hB (by simp)]; simp [Fns.box]
  · rw [h.2.cell (p := ⟨w.heap.size, 1, none⟩) hB (by simp)]; simp [Fns.box]
theorem Fns.At.post {F : Fns} {w wr : World} {d : Nat → Nat} {R : (Nat → Nat) → Prop} (h : F.At w d wr) (hR : R d) : F.Post w R (.returned (.tuple #[])) wr :=
  ⟨rfl, d, hR, h.1, (((Up.refl F.B w).alloc F.box)).trans h.2⟩
theorem Fns.At.next {F : Fns} {w wr wx : World} {d e : Nat → Nat} (h : F.At w d wr) (h1 : F.I e wx) (h2 : Up F.B wr wx) : F.At w e wx := ⟨h1, h.2.trans h2⟩

set_option maxHeartbeats 2000000 in
set_option maxRecDepth 100000 in
theorem swapRange_any (F : Fns) (ok : F.Ok) (a b k : Nat) (d : Nat → Nat) (w : World) (hI : F.I d w) (h1 : a + k ≤ b) (h2 : b + k ≤ F.n) (hn : F.n ≤ 4096) :
    Calls Tryf.prog 38 #[F.data, .int .i64 a, .int .i64 b, .int .i64 k] w (F.Post w fun d' => d' = swr d a b k) := by
  have hB := ok.size d w hI
  have hA : F.At w d (w.alloc F.box) := ⟨ok.alloc _ _ _ hI, Up.refl _ _⟩
  unfold Fns.data
  unfold Fns.box at hA
  go_enter Tryf.func38, Tryf.ntmps38
  go_wp2
  go_loopw [8] (fun vi wr => ∃ i : Nat, vi = .int .i64 i ∧ i ≤ k ∧ F.At w (swr d a b i) wr) (fun vi _ => k - (intOf vi).toNat)
  case atStart => exact ⟨0, rfl, Nat.zero_le _, by rw [swr_zero]; exact hA⟩
  case round =>
    obtain ⟨i, rfl, hik, hat⟩ := hrel
    obtain ⟨c0, c1⟩ := hat.cells hB
    by_cases hlt : i < k
    · obtain ⟨wx, hs, hx1, hx2⟩ := ok.swap _ wr hat.1 (a + i) (b + i) (by omega) (by omega) (by omega)
      rw [swr_step d a b k i hlt h1] at hx1
      rw [show ((a + i : Nat) : Int) = (a : Int) + (i : Int) by omega, show ((b + i : Nat) : Int) = (b : Int) + (i : Int) by omega] at hs
      have hat2 := hat.next hx1 hx2
      clear hat hx1 hx2
      go_wp2
      go_roundw
      case rel => exact ⟨i + 1, by go_num, by omega, hat2⟩
      case measure => simp [intOf]; omega
    · go_wp2
      go_end0
      exact hat.post (by rw [show k = i by omega])

/-- what rotate's loop keeps. -/
def Fns.Ro (F : Fns) (w : World) (f : Nat → Nat) (lo m hi : Nat) (vi vj : Value) (wr : World) : Prop :=
  ∃ (i j : Nat) (e : Nat → Nat), vi = .int .i64 i ∧ vj = .int .i64 j ∧ 0 < i ∧ 0 < j ∧ lo + i ≤ m ∧ m + j ≤ hi ∧ rot e (m - i) m (m + j) = f ∧ F.At w e wr
theorem Fns.Ro.mk {F : Fns} {w wr : World} {f e : Nat → Nat} {lo m hi i j : Nat} {x y : Int} (hx : x = (i : Int)) (hy : y = (j : Int)) (h1 : 0 < i) (h2 : 0 < j) (h3 : lo + i ≤ m) (h4 : m + j ≤ hi) (hr : rot e (m - i) m (m + j) = f) (ha : F.At w e wr) : F.Ro w f lo m hi (.int .i64 x) (.int .i64 y) wr :=
  ⟨i, j, e, by rw [hx], by rw [hy], h1, h2, h3, h4, hr, ha⟩

set_option maxHeartbeats 2000000 in
set_option maxRecDepth 100000 in
theorem rotate_any (F : Fns) (ok : F.Ok) (a m b : Nat) (d : Nat → Nat) (w : World) (hI : F.I d w) (h1 : a < m) (h2 : m < b) (h3 : b ≤ F.n) (hn : F.n ≤ 4096) :
    Calls Tryf.prog 37 #[F.data, .int .i64 a, .int .i64 m, .int .i64 b] w (F.Post w fun d' => d' = rot d a m b) := by
  have hB := ok.size d w hI
  have hA : F.At w d (w.alloc F.box) := ⟨ok.alloc _ _ _ hI, Up.refl _ _⟩
  unfold Fns.data
  unfold Fns.box at hA
  go_enter Tryf.func37, Tryf.ntmps37
  go_wp2
  go_loopw [8, 9] (fun vi vj wr => F.Ro w (rot d a m b) a m b vi vj wr) (fun vi vj _ => (intOf vi).toNat + (intOf vj).toNat)
  case atStart => exact Fns.Ro.mk (i := m - a) (j := b - m) (by omega) (by omega) (by omega) (by omega) (by omega) (by omega) (by rw [show m - (m - a) = a by omega, show m + (b - m) = b by omega]) hA
  case round =>
    obtain ⟨i, j, e, rfl, rfl, hi0, hj0, him, hjb, hr, hat⟩ := hrel
    obtain ⟨c0, c1⟩ := hat.cells hB
    have Hr : Hid _ := hr
    clear hr
    by_cases hij : i = j
    · subst hij
      have hs := swapRange_any F ok (m - i) m i e wr hat.1 (by omega) (by omega) hn
      rw [show ((m - i : Nat) : Int) = (m : Int) - (i : Int) by omega] at hs
      unfold Fns.data at hs
      go_wp2_with fail
      refine hs.mono ?_
      rintro x w' ⟨rfl, d', rfl, hI2, hU⟩
      go_wp2
      go_end0
      exact (hat.next hI2 hU).post (by rw [← Hr.out]; exact rot_end e m i (by omega))
    · by_cases hgt : j < i
      · have hs := swapRange_any F ok (m - i) m j e wr hat.1 (by omega) (by omega) hn
        rw [show ((m - i : Nat) : Int) = (m : Int) - (i : Int) by omega] at hs
        unfold Fns.data at hs
        go_wp2_with fail
        refine hs.mono ?_
        rintro x w' ⟨rfl, d', rfl, hI2, hU⟩
        go_wp2
        go_roundw
        case rel => exact Fns.Ro.mk (i := i - j) (j := j) (by omega) rfl (by omega) hj0 (by omega) hjb (by rw [← Hr.out]; exact rot_big e m i j hgt (by omega)) (hat.next hI2 hU)
        case measure => simp [intOf]; omega
      · have hs := swapRange_any F ok (m - i) (m + j - i) i e wr hat.1 (by omega) (by omega) hn
        rw [show ((m - i : Nat) : Int) = (m : Int) - (i : Int) by omega, show ((m + j - i : Nat) : Int) = (m : Int) + (j : Int) - (i : Int) by omega] at hs
        unfold Fns.data at hs
        go_wp2_with fail
        refine hs.mono ?_
        rintro x w' ⟨rfl, d', rfl, hI2, hU⟩
        go_wp2
        go_roundw
        case rel => exact Fns.Ro.mk (i := i) (j := j - i) rfl (by omega) hi0 (by omega) him (by omega) (by rw [← Hr.out]; exact rot_small e m i j (by omega) (by omega)) (hat.next hI2 hU)
        case measure => simp [intOf]; omega

/-- the order: ties go by the number. -/
def Fns.T (F : Fns) (x y : Nat) : Prop := F.lt x y = true ∨ (F.lt y x = false ∧ x < y)
structure Fns.Order (F : Fns) : Prop where
  tr : ∀ x y z, F.T x y → F.T y z → F.T x z
/-- a row's stretch that is in order and holds its own numbers. -/
def Fns.Good (F : Fns) (d : Nat → Nat) (a b : Nat) : Prop := Srt F.T d a b ∧ ∀ k, a ≤ k → k < b → a ≤ d k ∧ d k < b

/-- insertion sort's outer loop. -/
def Fns.In (F : Fns) (w : World) (d : Nat → Nat) (a b : Nat) (vi : Value) (wr : World) : Prop :=
  ∃ (i : Nat) (e : Nat → Nat), vi = .int .i64 i ∧ a < i ∧ (a < b → i ≤ b) ∧ F.Good e a i ∧ (∀ k, i ≤ k → e k = d k) ∧ Reach a b d e ∧ F.At w e wr
theorem rot_reach_down (e : Nat → Nat) (a b i : Nat) (hi : i < b) : ∀ j, a + j ≤ i → Reach a b e (rot e (i - j) i (i + 1)) := by
  intro j
  induction j with
  | zero => intro _; rw [Nat.sub_zero, rot_none]; exact .refl
  | succ j ih =>
    intro hj
    have := rot_down e i (i - (j + 1)) (by omega)
    rw [show i - (j + 1) + 1 = i - j by omega] at this
    rw [← this]
    exact (ih (by omega)).step (by omega) (by omega) (by omega) (by omega)
theorem rot_reach_up (e : Nat → Nat) (a b : Nat) : ∀ j, a + 1 + j ≤ b → Reach a b e (rot e a (a + 1) (a + 1 + j)) := by
  intro j
  induction j with
  | zero => intro _; rw [Nat.add_zero, rot_none']; exact .refl
  | succ j ih =>
    intro hj
    have := rot_up e a (a + j) (by omega)
    rw [show a + 1 + (j + 1) = a + j + 2 by omega, ← this]
    rw [show a + 1 + j = a + j + 1 by omega] at ih
    exact (ih (by omega)).step (by omega) (by omega) (by omega) (by omega)
/-- a round of insertion sort is done. -/
theorem Fns.In.next {F : Fns} {w wr : World} {d e : Nat → Nat} {a b i j : Nat} {z : Int} (hz : z = ((i + 1 : Nat) : Int)) (hai : a < i) (hib : i < b) (hg : F.Good e a i) (ho : ∀ k, i ≤ k → e k = d k) (hr : Reach a b d e) (hd : ∀ k, a ≤ k → k < b → d k = k) (hj : a ≤ j) (hji : j ≤ i)
    (h1 : ∀ k, a ≤ k → k < j → F.T (e k) (e i)) (h2 : ∀ k, j ≤ k → k < i → F.T (e i) (e k)) (hat : F.At w (rot e j i (i + 1)) wr) : F.In w d a b (.int .i64 z) wr := by
  have hreach := rot_reach_down e a (i + 1) i (by omega) (i - j) (by omega)
  rw [show i - (i - j) = j by omega] at hreach
  have ei : e i = i := by rw [ho i (Nat.le_refl _), hd i (by omega) hib]
  refine ⟨i + 1, rot e j i (i + 1), by rw [hz], by omega, fun _ => by omega, ⟨put_last hg.1 hj hji h1 h2, ?_⟩, ?_, hr.trans (hreach.mono (Nat.le_refl _) (by omega)), hat⟩
  · refine hreach.all (fun x => a ≤ x ∧ x < i + 1) (fun k hk1 hk2 => ?_)
    by_cases c : k < i
    · have := hg.2 k hk1 c; omega
    · rw [show k = i by omega, ei]; omega
  · intro k hk
    rw [hreach.out k (Or.inr hk)]
    exact ho k (by omega)

/-- insertion sort's inner loop. -/
def Fns.Ii (F : Fns) (w : World) (e : Nat → Nat) (a i : Nat) (vj : Value) (wr : World) : Prop :=
  ∃ j : Nat, vj = .int .i64 j ∧ a ≤ j ∧ j ≤ i ∧ (∀ k, j ≤ k → k < i → F.T (e i) (e k)) ∧ F.At w (rot e j i (i + 1)) wr

theorem rot_head (e : Nat → Nat) (j i : Nat) : rot e j i (i + 1) j = e i := by
  unfold rot
  rw [if_pos (by omega)]; congr 1; omega
theorem rot_below (e : Nat → Nat) (j i b k : Nat) (h : k < j) (hb : j + (b - i) ≥ j) : rot e j i b k = e k := by
  unfold rot
  rw [if_neg (by omega), if_neg (by omega)]

set_option maxHeartbeats 2000000 in
set_option maxRecDepth 100000 in
theorem insertion_nil (F : Fns) (ok : F.Ok) (a : Nat) (d : Nat → Nat) (w : World) (hI : F.I d w) (h3 : a ≤ F.n) (hn : F.n ≤ 4096) :
    Calls Tryf.prog 35 #[F.data, .int .i64 a, .int .i64 a] w (F.Post w fun d' => F.Good d' a a ∧ Reach a a d d') := by
  have hA : F.At w d (w.alloc F.box) := ⟨ok.alloc _ _ _ hI, Up.refl _ _⟩
  unfold Fns.data
  unfold Fns.box at hA
  go_enter Tryf.func35, Tryf.ntmps35
  go_wp2
  go_loopw [6] (fun vi wr => vi = .int .i64 ((a : Int) + 1) ∧ F.At w d wr) (fun vi _ => a + 1 - (intOf vi).toNat)
  case atStart => exact ⟨rfl, hA⟩
  case round =>
    obtain ⟨rfl, hat⟩ := hrel
    go_wp2
    go_end0
    exact hat.post ⟨⟨fun i j _ _ _ => by omega, fun k _ _ => by omega⟩, .refl⟩

end Go.Proofs.Qxb6615733aFmt
