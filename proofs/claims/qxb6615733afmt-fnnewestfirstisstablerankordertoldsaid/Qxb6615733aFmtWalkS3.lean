/-
  Seat b6615733aF: the symmetric merge of the stable sort.
-/
import Derived.Test.Qxb6615733aFmtWalkS
import Derived.Test.Qxb6615733aFmtPlainT
import Derived.Laws.BitsLemmas
import Derived.Laws.IdiomStrings
namespace Go.Proofs.Qxb6615733aFmt
open Go.RowKit

theorem Fns.Ok.less_at {F : Fns} (ok : F.Ok) {d : Nat → Nat} {w : World} {x y : Int} {i j : Nat} (hI : F.I d w) (hx : x = (i : Int)) (hy : y = (j : Int)) (hi : i < F.n) (hj : j < F.n) {v : Bool} (hv : F.lt (d i) (d j) = v) :
    Calls Tryf.prog F.g (#[.int .i64 x, .int .i64 y] ++ F.lb) w fun e w' => e = .returned (.bool v) ∧ F.I d w' ∧ Up F.B w w' := by
  subst hx hy hv
  exact ok.less d w hI i j hi hj
theorem Fns.Ok.swap_at {F : Fns} (ok : F.Ok) {d e : Nat → Nat} {w : World} {x y : Int} {i j : Nat} (hI : F.I d w) (hx : x = (i : Int)) (hy : y = (j : Int)) (hi : i < F.n) (hj : j < F.n) (hij : i ≠ j) (he : swp d i j = e) :
    ∃ w', (callFunc F.sf (#[.int .i64 x, .int .i64 y] ++ F.sb)).run Tryf.prog w = .ok (.value (.tuple #[])) w' ∧ F.I e w' ∧ Up F.B w w' := by
  subst hx hy he
  exact ok.swap d w hI i j hi hj hij
theorem Fns.T.of_true {F : Fns} {x y : Nat} (h : F.lt x y = true) : F.T x y := Or.inl h
theorem Fns.T.of_false {F : Fns} {x y : Nat} (h : F.lt y x = false) (hxy : x < y) : F.T x y := Or.inr ⟨h, hxy⟩

/-- the search for the first's place. -/
def Fns.B1 (F : Fns) (w : World) (d : Nat → Nat) (a m b : Nat) (vi vj : Value) (wr : World) : Prop :=
  ∃ i j : Nat, vi = .int .i64 i ∧ vj = .int .i64 j ∧ m ≤ i ∧ i ≤ j ∧ j ≤ b ∧ (∀ k, m ≤ k → k < i → F.T (d k) (d a)) ∧ (∀ k, j ≤ k → k < b → F.T (d a) (d k)) ∧ F.At w d wr
theorem Fns.B1.mk {F : Fns} {w wr : World} {d : Nat → Nat} {a m b i j : Nat} {x y : Int} (hx : x = (i : Int)) (hy : y = (j : Int)) (h1 : m ≤ i) (h2 : i ≤ j) (h3 : j ≤ b) (h4 : ∀ k, m ≤ k → k < i → F.T (d k) (d a)) (h5 : ∀ k, j ≤ k → k < b → F.T (d a) (d k)) (h6 : F.At w d wr) : F.B1 w d a m b (.int .i64 x) (.int .i64 y) wr :=
  ⟨i, j, by rw [hx], by rw [hy], h1, h2, h3, h4, h5, h6⟩
def Fns.B2 (F : Fns) (w : World) (d : Nat → Nat) (a m : Nat) (vi vj : Value) (wr : World) : Prop :=
  ∃ i j : Nat, vi = .int .i64 i ∧ vj = .int .i64 j ∧ a ≤ i ∧ i ≤ j ∧ j ≤ m ∧ (∀ k, a ≤ k → k < i → F.T (d k) (d m)) ∧ (∀ k, j ≤ k → k < m → F.T (d m) (d k)) ∧ F.At w d wr
theorem Fns.B2.mk {F : Fns} {w wr : World} {d : Nat → Nat} {a m i j : Nat} {x y : Int} (hx : x = (i : Int)) (hy : y = (j : Int)) (h1 : a ≤ i) (h2 : i ≤ j) (h3 : j ≤ m) (h4 : ∀ k, a ≤ k → k < i → F.T (d k) (d m)) (h5 : ∀ k, j ≤ k → k < m → F.T (d m) (d k)) (h6 : F.At w d wr) : F.B2 w d a m (.int .i64 x) (.int .i64 y) wr :=
  ⟨i, j, by rw [hx], by rw [hy], h1, h2, h3, h4, h5, h6⟩
/-- the place goes up, or down. -/
def Fns.U1 (F : Fns) (w : World) (d : Nat → Nat) (a i : Nat) (vk : Value) (wr : World) : Prop := ∃ k : Nat, vk = .int .i64 k ∧ a ≤ k ∧ k < i ∧ F.At w (rot d a (a + 1) (k + 1)) wr
def Fns.D1 (F : Fns) (w : World) (d : Nat → Nat) (i m : Nat) (vk : Value) (wr : World) : Prop := ∃ k : Nat, vk = .int .i64 k ∧ i ≤ k ∧ k ≤ m ∧ F.At w (rot d k m (m + 1)) wr
def Fns.Sorts (F : Fns) (d : Nat → Nat) (a b : Nat) (d' : Nat → Nat) : Prop := Srt F.T d' a b ∧ Reach a b d d'

set_option maxHeartbeats 4000000 in
set_option maxRecDepth 100000 in
theorem sym_first (F : Fns) (ok : F.Ok) (or : F.Order) (a m b : Nat) (hm1 : m ≤ a + 1) (hm2 : a + 1 ≤ m) (d : Nat → Nat) (w : World) (hI : F.I d w) (h2 : m < b) (h3 : b ≤ F.n) (hn : F.n ≤ 4096) (hB : Srt F.T d m b) (hX : ∀ j, a < j → j < b → d a < d j) :
    Calls Tryf.prog 36 #[F.data, .int .i64 a, .int .i64 m, .int .i64 b] w (F.Post w (F.Sorts d a b)) := by
  have hBw := ok.size d w hI
  have eg := ok.eg
  have hA : F.At w d (w.alloc F.box) := ⟨ok.alloc _ _ _ hI, Up.refl _ _⟩
  have HB : Hid _ := hB
  have HX : Hid _ := hX
  clear hB hX
  have e26 : (((m : Int) - (a : Int)) == 1) = true := by simp; omega
  unfold Fns.data
  unfold Fns.box at hA
  go_enter Tryf.func36, Tryf.ntmps36
  go_wp2_with fail
  go_loopw [8, 9] (fun vi vj wr => F.B1 w d a m b vi vj wr) (fun vi vj _ => (intOf vj).toNat - (intOf vi).toNat)
  case atStart => exact Fns.B1.mk (i := m) (j := b) rfl rfl (Nat.le_refl _) (by omega) (Nat.le_refl _) (fun k _ _ => by omega) (fun k _ _ => by omega) hA
  case round =>
    obtain ⟨i, j, rfl, rfl, hmi, hij, hjb, h4, h5, hat⟩ := hrel
    obtain ⟨c0, c1⟩ := hat.cells hBw
    have H4 : Hid _ := h4
    have H5 : Hid _ := h5
    clear h4 h5
    by_cases hlt : i < j
    · obtain ⟨h, hh⟩ : ∃ h, h = (i + j) / 2 := ⟨_, rfl⟩
      have Hh : Hid _ := hh
      have hi1 : i ≤ h := by omega
      have hi2 : h < j := by omega
      clear hh
      cases hlv : F.lt (d h) (d a) with
      | true =>
        go_wp2_with fail
        refine (ok.less_at (i := h) (j := a) hat.1 (by have := Hh.out; omega) rfl (by omega) (by omega) hlv).mono ?_
        rintro x w' ⟨rfl, hI2, hU2⟩
        have hat3 := hat.next hI2 hU2
        clear hI2 hU2 hat c0 c1
        go_wp2
        go_roundw
        case rel =>
          have h6 : ∀ k, m ≤ k → k < h + 1 → F.T (d k) (d a) := by
            intro k h1 h2
            by_cases c : k = h
            · rw [c]; exact Fns.T.of_true hlv
            · exact or.tr _ _ _ (HB.out k h h1 (by omega) (by omega)) (Fns.T.of_true hlv)
          have hh := Hh.out
          exact Fns.B1.mk (i := h + 1) (j := j) (by omega) rfl (by omega) (by omega) hjb h6 H5.out hat3
        case measure => have := Hh.out; simp [intOf]; omega
      | false =>
        go_wp2_with fail
        refine (ok.less_at (i := h) (j := a) hat.1 (by have := Hh.out; omega) rfl (by omega) (by omega) hlv).mono ?_
        rintro x w' ⟨rfl, hI2, hU2⟩
        have hat3 := hat.next hI2 hU2
        clear hI2 hU2 hat c0 c1
        go_wp2
        go_roundw
        case rel =>
          have t0 : F.T (d a) (d h) := Fns.T.of_false hlv (HX.out h (by omega) (by omega))
          have h6 : ∀ k, h ≤ k → k < b → F.T (d a) (d k) := by
            intro k h1 h2
            by_cases c : k = h
            · rw [c]; exact t0
            · exact or.tr _ _ _ t0 (HB.out h k (by omega) (by omega) h2)
          have hh := Hh.out
          exact Fns.B1.mk (i := i) (j := h) rfl (by omega) hmi hi1 (by omega) H4.out h6 hat3
        case measure => have := Hh.out; simp [intOf]; omega
    · have hij2 : j = i := by omega
      subst hij2
      clear c0 c1
      go_wp2_with fail
      go_loopw [11] (fun vk wr => F.U1 w d a j vk wr) (fun vk _ => j - (intOf vk).toNat)
      case atStart => exact ⟨a, rfl, Nat.le_refl _, by omega, by rw [rot_none']; exact hat⟩
      case round =>
        obtain ⟨k, rfl, hak, hkj, hat2⟩ := hrel
        obtain ⟨c0, c1⟩ := hat2.cells hBw
        clear hat
        by_cases hk : k + 1 < j
        · obtain ⟨wx, hs, hx1, hx2⟩ := ok.swap_at (x := (k : Int)) (y := (k : Int) + 1) (i := k) (j := k + 1) hat2.1 rfl (by omega) (by omega) (by omega) (by omega) (rot_up d a k hak)
          have hat3 := hat2.next hx1 hx2
          clear hat2 hx1 hx2
          go_wp2
          go_roundw
          case rel => exact ⟨k + 1, by go_num, by omega, by omega, hat3⟩
          case measure => simp [intOf]; omega
        · have hk2 : j = k + 1 := by omega
          subst hk2
          have hre := rot_reach_up d a b (k - a) (by omega)
          rw [show a + 1 + (k - a) = k + 1 by omega] at hre
          have hso : Srt F.T (rot d a (a + 1) (k + 1)) a b := by
            have e : m = a + 1 := by omega
            subst e
            exact put_first HB.out hmi hjb H4.out H5.out
          have HS : Hid (F.Sorts d a b (rot d a (a + 1) (k + 1))) := ⟨hso, hre⟩
          clear hre hso
          go_wp2
          go_end0
          exact hat2.post HS.out

set_option maxHeartbeats 4000000 in
set_option maxRecDepth 100000 in
theorem sym_last (F : Fns) (ok : F.Ok) (or : F.Order) (a m b : Nat) (hm1 : b ≤ m + 1) (hm2 : m + 1 ≤ b) (hm3 : a + 1 < m) (d : Nat → Nat) (w : World) (hI : F.I d w) (h3 : b ≤ F.n) (hn : F.n ≤ 4096) (hA0 : Srt F.T d a m) (hX : ∀ j, a ≤ j → j < m → d j < d m) :
    Calls Tryf.prog 36 #[F.data, .int .i64 a, .int .i64 m, .int .i64 b] w (F.Post w (F.Sorts d a b)) := by
  have hBw := ok.size d w hI
  have eg := ok.eg
  have hA : F.At w d (w.alloc F.box) := ⟨ok.alloc _ _ _ hI, Up.refl _ _⟩
  have HA : Hid _ := hA0
  have HX : Hid _ := hX
  clear hA0 hX
  have e26 : (((m : Int) - (a : Int)) == 1) = false := by simp; omega
  have e62 : (((b : Int) - (m : Int)) == 1) = true := by simp; omega
  unfold Fns.data
  unfold Fns.box at hA
  go_enter Tryf.func36, Tryf.ntmps36
  go_wp2_with fail
  go_loopw [12, 13] (fun vi vj wr => F.B2 w d a m vi vj wr) (fun vi vj _ => (intOf vj).toNat - (intOf vi).toNat)
  case atStart => exact Fns.B2.mk (i := a) (j := m) rfl rfl (Nat.le_refl _) (by omega) (Nat.le_refl _) (fun k _ _ => by omega) (fun k _ _ => by omega) hA
  case round =>
    obtain ⟨i, j, rfl, rfl, hmi, hij, hjb, h4, h5, hat⟩ := hrel
    obtain ⟨c0, c1⟩ := hat.cells hBw
    have H4 : Hid _ := h4
    have H5 : Hid _ := h5
    clear h4 h5
    by_cases hlt : i < j
    · obtain ⟨h, hh⟩ : ∃ h, h = (i + j) / 2 := ⟨_, rfl⟩
      have Hh : Hid _ := hh
      have hi1 : i ≤ h := by omega
      have hi2 : h < j := by omega
      clear hh
      cases hlv : F.lt (d m) (d h) with
      | true =>
        go_wp2_with fail
        refine (ok.less_at (i := m) (j := h) hat.1 rfl (by have := Hh.out; omega) (by omega) (by omega) hlv).mono ?_
        rintro x w' ⟨rfl, hI2, hU2⟩
        have hat3 := hat.next hI2 hU2
        clear hI2 hU2 hat c0 c1
        go_wp2
        go_roundw
        case rel =>
          have t0 : F.T (d m) (d h) := Fns.T.of_true hlv
          have h6 : ∀ k, h ≤ k → k < m → F.T (d m) (d k) := by
            intro k h1 h2
            by_cases c : k = h
            · rw [c]; exact t0
            · exact or.tr _ _ _ t0 (HA.out h k (by omega) (by omega) h2)
          have hh := Hh.out
          exact Fns.B2.mk (i := i) (j := h) rfl (by omega) hmi hi1 (by omega) H4.out h6 hat3
        case measure => have := Hh.out; simp [intOf]; omega
      | false =>
        go_wp2_with fail
        refine (ok.less_at (i := m) (j := h) hat.1 rfl (by have := Hh.out; omega) (by omega) (by omega) hlv).mono ?_
        rintro x w' ⟨rfl, hI2, hU2⟩
        have hat3 := hat.next hI2 hU2
        clear hI2 hU2 hat c0 c1
        go_wp2
        go_roundw
        case rel =>
          have t0 : F.T (d h) (d m) := Fns.T.of_false hlv (HX.out h (by omega) (by omega))
          have h6 : ∀ k, a ≤ k → k < h + 1 → F.T (d k) (d m) := by
            intro k h1 h2
            by_cases c : k = h
            · rw [c]; exact t0
            · exact or.tr _ _ _ (HA.out k h h1 (by omega) (by omega)) t0
          have hh := Hh.out
          exact Fns.B2.mk (i := h + 1) (j := j) (by omega) rfl (by omega) (by omega) hjb h6 H5.out hat3
        case measure => have := Hh.out; simp [intOf]; omega
    · have hij2 : j = i := by omega
      subst hij2
      clear c0 c1
      go_wp2_with fail
      go_loopw [15] (fun vk wr => F.D1 w d j m vk wr) (fun vk _ => (intOf vk).toNat)
      case atStart => exact ⟨m, rfl, hjb, Nat.le_refl _, by rw [rot_none]; exact hat⟩
      case round =>
        obtain ⟨k, rfl, hjk, hkm, hat2⟩ := hrel
        obtain ⟨c0, c1⟩ := hat2.cells hBw
        clear hat
        by_cases hk : j < k
        · have hrd := rot_down d m (k - 1) (by omega)
          rw [show k - 1 + 1 = k by omega] at hrd
          obtain ⟨wx, hs, hx1, hx2⟩ := ok.swap_at (x := (k : Int)) (y := (k : Int) - 1) (i := k) (j := k - 1) hat2.1 rfl (by omega) (by omega) (by omega) (by omega) hrd
          have hat3 := hat2.next hx1 hx2
          clear hat2 hx1 hx2 hrd
          go_wp2
          go_roundw
          case rel => exact ⟨k - 1, by congr 1; omega, by omega, by omega, hat3⟩
          case measure => simp [intOf]; omega
        · have hk2 : j = k := by omega
          subst hk2
          have hre := rot_reach_down d a b m (by omega) (m - j) (by omega)
          rw [show m - (m - j) = j by omega] at hre
          have hso : Srt F.T (rot d j m (m + 1)) a b := by
            have e : b = m + 1 := by omega
            subst e
            exact put_last HA.out hmi hjb H4.out H5.out
          have HS : Hid (F.Sorts d a b (rot d j m (m + 1))) := ⟨hso, hre⟩
          clear hre hso
          go_wp2
          go_end0
          exact hat2.post HS.out
end Go.Proofs.Qxb6615733aFmt
