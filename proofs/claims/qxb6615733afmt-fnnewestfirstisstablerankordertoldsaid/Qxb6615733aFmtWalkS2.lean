/-
  Seat b6615733aF: insertion sort of the stable sort.
-/
import Derived.Test.Qxb6615733aFmtWalkS
namespace Go.Proofs.Qxb6615733aFmt
open Go.RowKit

set_option maxHeartbeats 2000000 in
set_option maxRecDepth 100000 in
theorem insertion_pos (F : Fns) (ok : F.Ok) (or : F.Order) (a b : Nat) (d : Nat → Nat) (w : World) (hI : F.I d w) (hab : a < b) (h3 : b ≤ F.n) (hn : F.n ≤ 4096) (hd : ∀ k, a ≤ k → k < b → d k = k) :
    Calls Tryf.prog 35 #[F.data, .int .i64 a, .int .i64 b] w (F.Post w fun d' => F.Good d' a b ∧ Reach a b d d') := by
  have hB := ok.size d w hI
  have eg := ok.eg
  have hA : F.At w d (w.alloc F.box) := ⟨ok.alloc _ _ _ hI, Up.refl _ _⟩
  have Hd : Hid (∀ k, a ≤ k → k < b → d k = k) := hd
  unfold Fns.data
  unfold Fns.box at hA
  go_enter Tryf.func35, Tryf.ntmps35
  go_wp2
  go_loopw [6] (fun vi wr => F.In w d a b vi wr) (fun vi _ => b + 1 - (intOf vi).toNat)
  case atStart =>
    refine ⟨a + 1, d, by go_num, by omega, fun _ => by omega, ⟨fun i j _ _ _ => by omega, ?_⟩, fun _ _ => rfl, .refl, hA⟩
    intro k hk1 hk2
    rw [hd k hk1 (by omega)]; omega
  case round =>
    obtain ⟨i, e, rfl, hai, hib0, hg, ho, hr, hat⟩ := hrel
    have hib := hib0 hab
    have Ho : Hid (∀ k, i ≤ k → e k = d k) := ho
    clear ho hd hib0
    by_cases hlt : i < b
    · go_wp2_with fail
      go_loopw [7] (fun vj wr2 => F.Ii w e a i vj wr2) (fun vj _ => (intOf vj).toNat)
      case atStart => exact ⟨i, rfl, by omega, Nat.le_refl _, fun k h1 h2 => by omega, by rw [rot_none]; exact hat⟩
      case round =>
        obtain ⟨j, rfl, haj, hji, h2, hat2⟩ := hrel
        obtain ⟨c0, c1⟩ := hat2.cells hB
        have H2 : Hid (∀ k, j ≤ k → k < i → F.T (e i) (e k)) := h2
        have HG : Hid (F.Good e a i) := hg
        have HA : Hid (F.At w e _) := hat
        clear h2 hg hat
        by_cases hja : a < j
        · have hl := ok.less _ wr hat2.1 j (j - 1) (by omega) (by omega)
          rw [rot_head e j i, rot_below e j i (i + 1) (j - 1) (by omega) (by omega), show (((j - 1 : Nat) : Int)) = (j : Int) - 1 by omega] at hl
          cases hlv : F.lt (e i) (e (j - 1)) with
          | true =>
            rw [hlv] at hl
            go_wp2_with fail
            refine hl.mono ?_
            rintro x w' ⟨rfl, hI2, hU2⟩
            have hat3 := hat2.next hI2 hU2
            obtain ⟨c2, c3⟩ := hat3.cells hB
            obtain ⟨wx, hs, hx1, hx2⟩ := ok.swap _ w' hI2 j (j - 1) (by omega) (by omega) (by omega)
            have hrd := rot_down e i (j - 1) (by omega)
            rw [show j - 1 + 1 = j by omega] at hrd
            rw [hrd] at hx1
            rw [show (((j - 1 : Nat) : Int)) = (j : Int) - 1 by omega] at hs
            have hat4 := hat3.next hx1 hx2
            clear hl hI2 hU2 hat3 hat2 hx1 hx2 hrd c0 c1
            go_wp2
            go_roundw
            case rel =>
              refine ⟨j - 1, by congr 1; omega, by omega, by omega, fun k h1 h2 => ?_, hat4⟩
              by_cases c : k = j - 1
              · rw [c]; exact Or.inl hlv
              · exact H2.out k (by omega) h2
            case measure => simp [intOf]; omega
          | false =>
            rw [hlv] at hl
            go_wp2_with fail
            refine hl.mono ?_
            rintro x w' ⟨rfl, hI2, hU2⟩
            have hat3 := hat2.next hI2 hU2
            clear hl hI2 hU2 hat2 c0 c1
            go_wp2
            go_roundw
            case rel =>
              have ei : e i = i := by rw [Ho.out i (Nat.le_refl _), Hd.out i (by omega) hlt]
              have t0 : F.T (e (j - 1)) (e i) := Or.inr ⟨hlv, by rw [ei]; exact (HG.out.2 (j - 1) (by omega) (by omega)).2⟩
              refine Fns.In.next (j := j) (by omega) hai hlt HG.out Ho.out hr Hd.out haj hji (fun k h1 h2 => ?_) H2.out hat3
              by_cases c : k = j - 1
              · rw [c]; exact t0
              · exact or.tr _ _ _ (HG.out.1 k (j - 1) h1 (by omega) (by omega)) t0
            case measure => simp [intOf]; omega
        · go_wp2
          go_roundw
          case rel => exact Fns.In.next (j := j) (by omega) hai hlt HG.out Ho.out hr Hd.out haj hji (fun k h1 h2 => by omega) H2.out hat2
          case measure => simp [intOf]; omega
    · go_wp2
      go_end0
      refine hat.post ⟨?_, hr⟩
      rw [show b = i by omega]; exact hg
theorem insertion_any (F : Fns) (ok : F.Ok) (or : F.Order) (a b : Nat) (d : Nat → Nat) (w : World) (hI : F.I d w) (hab : a ≤ b) (h3 : b ≤ F.n) (hn : F.n ≤ 4096) (hd : ∀ k, a ≤ k → k < b → d k = k) :
    Calls Tryf.prog 35 #[F.data, .int .i64 a, .int .i64 b] w (F.Post w fun d' => F.Good d' a b ∧ Reach a b d d') := by
  by_cases h : a < b
  · exact insertion_pos F ok or a b d w hI h h3 hn hd
  · rw [show b = a by omega]; exact insertion_nil F ok a d w hI (by omega) hn
end Go.Proofs.Qxb6615733aFmt
