/-
  Seat b6615733aF: the symmetric merge of the stable sort: the general step.
-/
import Derived.Test.Qxb6615733aFmtWalkS3
namespace Go.Proofs.Qxb6615733aFmt
open Go.RowKit

def Fns.Sym (F : Fns) (a m b : Nat) : Prop := ∀ (d : Nat → Nat) (w : World), F.I d w → Srt F.T d a m → Srt F.T d m b → (∀ i j, a ≤ i → i < m → m ≤ j → j < b → d i < d j) →
  Calls Tryf.prog 36 #[F.data, .int .i64 a, .int .i64 m, .int .i64 b] w (F.Post w (F.Sorts d a b))
theorem Fns.Sym.at {F : Fns} {a m b : Nat} (h : F.Sym a m b) {x y z : Int} (hx : x = (a : Int)) (hy : y = (m : Int)) (hz : z = (b : Int)) {d : Nat → Nat} {w : World} (h1 : F.I d w) (h2 : Srt F.T d a m) (h3 : Srt F.T d m b) (h4 : ∀ i j, a ≤ i → i < m → m ≤ j → j < b → d i < d j) :
    Calls Tryf.prog 36 #[.agg #[.func (.func F.g) #[] F.lb, .func (.func F.sf) #[] F.sb], .int .i64 x, .int .i64 y, .int .i64 z] w (F.Post w (F.Sorts d a b)) := by
  subst hx hy hz
  exact h d w h1 h2 h3 h4
theorem rotate_at (F : Fns) (ok : F.Ok) {a m b : Nat} {x y z : Int} (hx : x = (a : Int)) (hy : y = (m : Int)) (hz : z = (b : Int)) {d : Nat → Nat} {w : World} (hI : F.I d w) (h1 : a < m) (h2 : m < b) (h3 : b ≤ F.n) (hn : F.n ≤ 4096) :
    Calls Tryf.prog 37 #[.agg #[.func (.func F.g) #[] F.lb, .func (.func F.sf) #[] F.sb], .int .i64 x, .int .i64 y, .int .i64 z] w (F.Post w fun d' => d' = rot d a m b) := by
  subst hx hy hz
  exact rotate_any F ok a m b d w hI h1 h2 h3 hn
/-- the search of the symmetric merge. -/
def Fns.B3 (F : Fns) (w : World) (d : Nat → Nat) (lo hi p : Nat) (vs vr : Value) (wr : World) : Prop :=
  ∃ s r : Nat, vs = .int .i64 s ∧ vr = .int .i64 r ∧ lo ≤ s ∧ s ≤ r ∧ r ≤ hi ∧ (∀ k, lo ≤ k → k < s → F.T (d k) (d (p - k))) ∧ (∀ k, r ≤ k → k < hi → F.T (d (p - k)) (d k)) ∧ F.At w d wr
theorem Fns.B3.mk {F : Fns} {w wr : World} {d : Nat → Nat} {lo hi p s r : Nat} {x y : Int} (hx : x = (s : Int)) (hy : y = (r : Int)) (h1 : lo ≤ s) (h2 : s ≤ r) (h3 : r ≤ hi) (h4 : ∀ k, lo ≤ k → k < s → F.T (d k) (d (p - k))) (h5 : ∀ k, r ≤ k → k < hi → F.T (d (p - k)) (d k)) (h6 : F.At w d wr) : F.B3 w d lo hi p (.int .i64 x) (.int .i64 y) wr :=
  ⟨s, r, by rw [hx], by rw [hy], h1, h2, h3, h4, h5, h6⟩
/-- the halves behind the rotation: all that the two calls within ask. -/
structure Fns.Half (F : Fns) (d f : Nat → Nat) (a s mid e b : Nat) : Prop where
  x : ∀ i j, a ≤ i → i < mid → mid ≤ j → j < b → F.T (f i) (f j)
  A1 : Srt F.T f a s
  B1 : Srt F.T f s mid
  A2 : Srt F.T f mid e
  B2 : Srt F.T f e b
  X1 : ∀ i j, a ≤ i → i < s → s ≤ j → j < mid → f i < f j
  X2 : ∀ i j, mid ≤ i → i < e → e ≤ j → j < b → f i < f j
  R : Reach a b d f
theorem Fns.half {F : Fns} (or : F.Order) {d : Nat → Nat} {a m b mid s e lo hi : Nat} (hA : Srt F.T d a m) (hB : Srt F.T d m b) (hX : ∀ i j, a ≤ i → i < m → m ≤ j → j < b → d i < d j) (hse : s + e = mid + m) (h1 : a ≤ s) (h2 : s ≤ m) (h3 : m ≤ e) (h4 : e ≤ b) (hlo : lo ≤ s) (hhi : s ≤ hi)
    (hl0 : lo = a ∨ lo + b = mid + m) (hh0 : hi = m ∨ hi = mid) (H4 : ∀ k, lo ≤ k → k < s → F.T (d k) (d (mid + m - 1 - k))) (H5 : ∀ k, s ≤ k → k < hi → F.T (d (mid + m - 1 - k)) (d k)) : F.Half d (rot d s m e) a s mid e b := by
  refine ⟨sym_parts hA hB or.tr hse h1 h2 h3 h4 (fun c1 c2 => ?_) (fun c1 c2 => ?_), rot_A1 hA h2, rot_B1 hB hse h4, rot_A2 hA hse h1 h3, rot_B2 hB h2 h3, rot_X1 hX hse h2 h4, rot_X2 hX hse h1 h2 h3, ?_⟩
  · have := H4 (s - 1) (by omega) (by omega)
    rwa [show mid + m - 1 - (s - 1) = e by omega] at this
  · have := H5 s (Nat.le_refl _) (by omega)
    rwa [show mid + m - 1 - s = e - 1 by omega] at this
  · by_cases c1 : s < m
    · by_cases c2 : m < e
      · exact (rot_reach' d s m e c1 c2).mono h1 h4
      · rw [show e = m by omega, rot_none']; exact .refl
    · rw [show s = m by omega, rot_none]; exact .refl
theorem Fns.Half.right {F : Fns} {d f d1 : Nat → Nat} {a s mid e b : Nat} (h : F.Half d f a s mid e b) (hr : Reach a mid f d1) (he : mid ≤ e) : Srt F.T d1 mid e ∧ Srt F.T d1 e b ∧ ∀ i j, mid ≤ i → i < e → e ≤ j → j < b → d1 i < d1 j := by
  refine ⟨h.A2.same fun k hk _ => hr.out k (Or.inr hk), h.B2.same fun k hk _ => hr.out k (Or.inr (by omega)), fun i j h1 h2 h3 h4 => ?_⟩
  rw [hr.out i (Or.inr h1), hr.out j (Or.inr (by omega))]
  exact h.X2 i j h1 h2 h3 h4
theorem Fns.Half.done {F : Fns} {d f d1 d2 : Nat → Nat} {a s mid e b : Nat} (h : F.Half d f a s mid e b) (ham : a ≤ mid) (hmb : mid ≤ b) (h1 : F.Sorts f a mid d1) (h2 : F.Sorts d1 mid b d2) : F.Sorts d a b d2 :=
  ⟨sym_join h.x h1.1 h1.2 h2.1 h2.2, h.R.trans ((h1.2.mono (Nat.le_refl _) hmb).trans (h2.2.mono ham (Nat.le_refl _)))⟩
theorem Fns.Half.leftA {F : Fns} {d f : Nat → Nat} {a s mid e b : Nat} (h : F.Half d f a s mid e b) (hs : s ≤ a) : F.Sorts f a mid f := ⟨h.B1.sub hs (Nat.le_refl _), .refl⟩
theorem Fns.Half.leftB {F : Fns} {d f : Nat → Nat} {a s mid e b : Nat} (h : F.Half d f a s mid e b) (hs : mid ≤ s) : F.Sorts f a mid f := ⟨h.A1.sub (Nat.le_refl _) hs, .refl⟩
theorem Fns.Half.rightA {F : Fns} {d f d1 : Nat → Nat} {a s mid e b : Nat} (h : F.Half d f a s mid e b) (hr : Reach a mid f d1) (he : mid ≤ e) (hb : b ≤ e) : F.Sorts d1 mid b d1 := ⟨(h.right hr he).1.sub (Nat.le_refl _) hb, .refl⟩
theorem Fns.Half.rightB {F : Fns} {d f d1 : Nat → Nat} {a s mid e b : Nat} (h : F.Half d f a s mid e b) (hr : Reach a mid f d1) (he : mid ≤ e) (he2 : e ≤ mid) : F.Sorts d1 mid b d1 := ⟨(h.right hr he).2.1.sub he2 (Nat.le_refl _), .refl⟩

set_option maxHeartbeats 8000000 in
set_option maxRecDepth 100000 in
theorem sym_gen1 (F : Fns) (ok : F.Ok) (or : F.Order) (a m b mid : Nat) (hm1 : 2 * mid ≤ a + b) (hm2 : a + b ≤ 2 * mid + 1) (hmm : mid < m) (h1 : a + 1 < m) (h2 : m + 1 < b) (h3 : b ≤ F.n) (hn : F.n ≤ 4096)
    (ih : ∀ a' m' b', a' < m' → m' < b' → b' ≤ F.n → b' - a' < b - a → F.Sym a' m' b') : F.Sym a m b := by
  intro d w hI hA0 hB0 hX0
  have hBw := ok.size d w hI
  have eg := ok.eg
  have hA : F.At w d (w.alloc F.box) := ⟨ok.alloc _ _ _ hI, Up.refl _ _⟩
  have HA : Hid _ := hA0
  have HB : Hid _ := hB0
  have HX : Hid _ := hX0
  clear hA0 hB0 hX0
  have e26 : (((m : Int) - (a : Int)) == 1) = false := by simp; omega
  have e106 : decide (((a : Int) + (b : Int)) / 2 < (m : Int)) = true := by simp; omega
  have e62 : (((b : Int) - (m : Int)) == 1) = false := by simp; omega
  unfold Fns.data
  unfold Fns.box at hA
  go_enter Tryf.func36, Tryf.ntmps36
  go_wp2_with fail
  go_loopw [18, 19] (fun vs vr wr => F.B3 w d (mid + m - b) (mid) (mid + m - 1) vs vr wr) (fun vs vr _ => (intOf vr).toNat - (intOf vs).toNat)
  case atStart => exact Fns.B3.mk (s := mid + m - b) (r := mid) (by omega) (by omega) (Nat.le_refl _) (by omega) (Nat.le_refl _) (fun k _ _ => by omega) (fun k _ _ => by omega) hA
  case round =>
    obtain ⟨s, r, rfl, rfl, hls, hsr, hrh, h4, h5, hat⟩ := hrel
    obtain ⟨c0, c1⟩ := hat.cells hBw
    have H4 : Hid _ := h4
    have H5 : Hid _ := h5
    clear h4 h5
    by_cases hlt : s < r
    · obtain ⟨c, hc⟩ : ∃ c, c = (s + r) / 2 := ⟨_, rfl⟩
      have Hc : Hid _ := hc
      have hi1 : s ≤ c := by omega
      have hi2 : c < r := by omega
      clear hc
      cases hlv : F.lt (d (mid + m - 1 - c)) (d c) with
      | true =>
        go_wp2_with fail
        refine (ok.less_at (i := mid + m - 1 - c) (j := c) hat.1 (by have := Hc.out; omega) (by have := Hc.out; omega) (by omega) (by omega) hlv).mono ?_
        rintro x w' ⟨rfl, hI2, hU2⟩
        have hat3 := hat.next hI2 hU2
        clear hI2 hU2 hat c0 c1
        go_wp2
        go_roundw
        case rel =>
          have t0 : F.T (d (mid + m - 1 - c)) (d c) := Fns.T.of_true hlv
          have h6 : ∀ k, c ≤ k → k < mid → F.T (d (mid + m - 1 - k)) (d k) := by
            intro k h1 h2
            by_cases q : k = c
            · rw [q]; exact t0
            · exact or.tr _ _ _ (or.tr _ _ _ (HB.out (mid + m - 1 - k) (mid + m - 1 - c) (by omega) (by omega) (by omega)) t0) (HA.out c k (by omega) (by omega) (by omega))
          have hc := Hc.out
          exact Fns.B3.mk (s := s) (r := c) rfl (by omega) hls hi1 (by omega) H4.out h6 hat3
        case measure => have := Hc.out; simp [intOf]; omega
      | false =>
        go_wp2_with fail
        refine (ok.less_at (i := mid + m - 1 - c) (j := c) hat.1 (by have := Hc.out; omega) (by have := Hc.out; omega) (by omega) (by omega) hlv).mono ?_
        rintro x w' ⟨rfl, hI2, hU2⟩
        have hat3 := hat.next hI2 hU2
        clear hI2 hU2 hat c0 c1
        go_wp2
        go_roundw
        case rel =>
          have t0 : F.T (d c) (d (mid + m - 1 - c)) := Fns.T.of_false hlv (HX.out c (mid + m - 1 - c) (by omega) (by omega) (by omega) (by omega))
          have h6 : ∀ k, mid + m - b ≤ k → k < c + 1 → F.T (d k) (d (mid + m - 1 - k)) := by
            intro k h1 h2
            by_cases q : k = c
            · rw [q]; exact t0
            · exact or.tr _ _ _ (or.tr _ _ _ (HA.out k c (by omega) (by omega) (by omega)) t0) (HB.out (mid + m - 1 - c) (mid + m - 1 - k) (by omega) (by omega) (by omega))
          have hc := Hc.out
          exact Fns.B3.mk (s := c + 1) (r := r) (by omega) rfl (by omega) (by omega) hrh h6 H5.out hat3
        case measure => have := Hc.out; simp [intOf]; omega
    · have hsr2 : r = s := by omega
      subst hsr2
      clear c0 c1
      obtain ⟨e, he⟩ : ∃ e, e = mid + m - r := ⟨_, rfl⟩
      have HH : Hid _ := Fns.half or HA.out HB.out HX.out (show r + e = mid + m by omega) (by omega) (by omega) (by omega) (by omega) hls hrh (by omega) (by omega) H4.out H5.out
      have e1 : e + r ≤ mid + m := by omega
      have e2 : mid + m ≤ e + r := by omega
      have e3 : r ≤ m := by omega
      have e4 : m ≤ e := by omega
      have e5 : a ≤ r := by omega
      have e6 : e ≤ b := by omega
      clear he
      by_cases q1 : r < m
      · by_cases q2 : m < e
        · obtain ⟨c0, c1⟩ := hat.cells hBw
          go_wp2_with fail
          refine (rotate_at F ok (a := r) (m := m) (b := e) rfl rfl (by omega) hat.1 q1 q2 (by omega) hn).mono ?_
          rintro x w1 ⟨rfl, d1, rfl, hI1, hU1⟩
          have hat1 := hat.next hI1 hU1
          obtain ⟨k0, k1⟩ := hat1.cells hBw
          clear hI1 hU1 c0 c1
          have q3 : r < mid := by omega
          have q4 : mid < e := by omega
          by_cases q5 : a < r
          · go_wp2_with fail
            refine ((ih a r mid (by omega) (by omega) (by omega) (by omega)).at rfl rfl (by omega) hat1.1 HH.out.A1 HH.out.B1 HH.out.X1).mono ?_
            rintro x w2 ⟨rfl, d2, hS2, hI2, hU2⟩
            have hat2 := hat1.next hI2 hU2
            obtain ⟨k2, k3⟩ := hat2.cells hBw
            have HS : Hid (F.Sorts _ a mid d2) := hS2
            clear hS2 hI2 hU2
            by_cases q6 : e < b
            · go_wp2_with fail
              refine ((ih mid e b (by omega) (by omega) (by omega) (by omega)).at (by omega) (by omega) rfl hat2.1 (HH.out.right HS.out.2 (by omega)).1 (HH.out.right HS.out.2 (by omega)).2.1 (HH.out.right HS.out.2 (by omega)).2.2).mono ?_
              rintro x w3 ⟨rfl, d3, hS3, hI3, hU3⟩
              have hat3 := hat2.next hI3 hU3
              go_wp2
              go_end0
              exact hat3.post (HH.out.done (by omega) (by omega) HS.out hS3)
            · go_wp2
              go_end0
              exact hat2.post (HH.out.done (by omega) (by omega) HS.out (HH.out.rightA HS.out.2 (by omega) (by omega)))
          · have HL : F.Sorts _ a mid _ := HH.out.leftA (by omega)
            by_cases q6 : e < b
            · exfalso; omega
            · go_wp2
              go_end0
              exact hat1.post (HH.out.done (by omega) (by omega) HL (HH.out.rightA HL.2 (by omega) (by omega)))
        · have q3 : e = m := by omega
          subst q3
          have HH2 : Hid (F.Half d d a r mid e b) := by have h := HH.out; rw [rot_none'] at h; exact h
          clear HH
          have HH := HH2
          clear HH2
          obtain ⟨c0, c1⟩ := hat.cells hBw
          have HL : F.Sorts _ a mid _ := HH.out.leftB (by omega)
          have q4 : a < r := by omega
          have q5 : mid ≤ r := by omega
          have q6 : mid < e := by omega
          have q7 : e < b := by omega
          go_wp2_with fail
          refine ((ih mid e b (by omega) (by omega) (by omega) (by omega)).at (by omega) (by omega) rfl hat.1 (HH.out.right HL.2 (by omega)).1 (HH.out.right HL.2 (by omega)).2.1 (HH.out.right HL.2 (by omega)).2.2).mono ?_
          rintro x w3 ⟨rfl, d3, hS3, hI3, hU3⟩
          have hat3 := hat.next hI3 hU3
          go_wp2
          go_end0
          exact hat3.post (HH.out.done (by omega) (by omega) HL hS3)
      · exfalso; omega

set_option maxHeartbeats 8000000 in
set_option maxRecDepth 100000 in
theorem sym_gen2 (F : Fns) (ok : F.Ok) (or : F.Order) (a m b mid : Nat) (hm1 : 2 * mid ≤ a + b) (hm2 : a + b ≤ 2 * mid + 1) (hmm : m ≤ mid) (h1 : a + 1 < m) (h2 : m + 1 < b) (h3 : b ≤ F.n) (hn : F.n ≤ 4096)
    (ih : ∀ a' m' b', a' < m' → m' < b' → b' ≤ F.n → b' - a' < b - a → F.Sym a' m' b') : F.Sym a m b := by
  intro d w hI hA0 hB0 hX0
  have hBw := ok.size d w hI
  have eg := ok.eg
  have hA : F.At w d (w.alloc F.box) := ⟨ok.alloc _ _ _ hI, Up.refl _ _⟩
  have HA : Hid _ := hA0
  have HB : Hid _ := hB0
  have HX : Hid _ := hX0
  clear hA0 hB0 hX0
  have e26 : (((m : Int) - (a : Int)) == 1) = false := by simp; omega
  have e106 : decide (((a : Int) + (b : Int)) / 2 < (m : Int)) = false := by simp; omega
  have e62 : (((b : Int) - (m : Int)) == 1) = false := by simp; omega
  unfold Fns.data
  unfold Fns.box at hA
  go_enter Tryf.func36, Tryf.ntmps36
  go_wp2_with fail
  go_loopw [18, 19] (fun vs vr wr => F.B3 w d (a) (m) (mid + m - 1) vs vr wr) (fun vs vr _ => (intOf vr).toNat - (intOf vs).toNat)
  case atStart => exact Fns.B3.mk (s := a) (r := m) (by omega) (by omega) (Nat.le_refl _) (by omega) (Nat.le_refl _) (fun k _ _ => by omega) (fun k _ _ => by omega) hA
  case round =>
    obtain ⟨s, r, rfl, rfl, hls, hsr, hrh, h4, h5, hat⟩ := hrel
    obtain ⟨c0, c1⟩ := hat.cells hBw
    have H4 : Hid _ := h4
    have H5 : Hid _ := h5
    clear h4 h5
    by_cases hlt : s < r
    · obtain ⟨c, hc⟩ : ∃ c, c = (s + r) / 2 := ⟨_, rfl⟩
      have Hc : Hid _ := hc
      have hi1 : s ≤ c := by omega
      have hi2 : c < r := by omega
      clear hc
      cases hlv : F.lt (d (mid + m - 1 - c)) (d c) with
      | true =>
        go_wp2_with fail
        refine (ok.less_at (i := mid + m - 1 - c) (j := c) hat.1 (by have := Hc.out; omega) (by have := Hc.out; omega) (by omega) (by omega) hlv).mono ?_
        rintro x w' ⟨rfl, hI2, hU2⟩
        have hat3 := hat.next hI2 hU2
        clear hI2 hU2 hat c0 c1
        go_wp2
        go_roundw
        case rel =>
          have t0 : F.T (d (mid + m - 1 - c)) (d c) := Fns.T.of_true hlv
          have h6 : ∀ k, c ≤ k → k < m → F.T (d (mid + m - 1 - k)) (d k) := by
            intro k h1 h2
            by_cases q : k = c
            · rw [q]; exact t0
            · exact or.tr _ _ _ (or.tr _ _ _ (HB.out (mid + m - 1 - k) (mid + m - 1 - c) (by omega) (by omega) (by omega)) t0) (HA.out c k (by omega) (by omega) (by omega))
          have hc := Hc.out
          exact Fns.B3.mk (s := s) (r := c) rfl (by omega) hls hi1 (by omega) H4.out h6 hat3
        case measure => have := Hc.out; simp [intOf]; omega
      | false =>
        go_wp2_with fail
        refine (ok.less_at (i := mid + m - 1 - c) (j := c) hat.1 (by have := Hc.out; omega) (by have := Hc.out; omega) (by omega) (by omega) hlv).mono ?_
        rintro x w' ⟨rfl, hI2, hU2⟩
        have hat3 := hat.next hI2 hU2
        clear hI2 hU2 hat c0 c1
        go_wp2
        go_roundw
        case rel =>
          have t0 : F.T (d c) (d (mid + m - 1 - c)) := Fns.T.of_false hlv (HX.out c (mid + m - 1 - c) (by omega) (by omega) (by omega) (by omega))
          have h6 : ∀ k, a ≤ k → k < c + 1 → F.T (d k) (d (mid + m - 1 - k)) := by
            intro k h1 h2
            by_cases q : k = c
            · rw [q]; exact t0
            · exact or.tr _ _ _ (or.tr _ _ _ (HA.out k c (by omega) (by omega) (by omega)) t0) (HB.out (mid + m - 1 - c) (mid + m - 1 - k) (by omega) (by omega) (by omega))
          have hc := Hc.out
          exact Fns.B3.mk (s := c + 1) (r := r) (by omega) rfl (by omega) (by omega) hrh h6 H5.out hat3
        case measure => have := Hc.out; simp [intOf]; omega
    · have hsr2 : r = s := by omega
      subst hsr2
      clear c0 c1
      obtain ⟨e, he⟩ : ∃ e, e = mid + m - r := ⟨_, rfl⟩
      have HH : Hid _ := Fns.half or HA.out HB.out HX.out (show r + e = mid + m by omega) (by omega) (by omega) (by omega) (by omega) hls hrh (by omega) (by omega) H4.out H5.out
      have e1 : e + r ≤ mid + m := by omega
      have e2 : mid + m ≤ e + r := by omega
      have e3 : r ≤ m := by omega
      have e4 : m ≤ e := by omega
      have e5 : a ≤ r := by omega
      have e6 : e ≤ b := by omega
      clear he
      by_cases q1 : r < m
      · by_cases q2 : m < e
        · obtain ⟨c0, c1⟩ := hat.cells hBw
          go_wp2_with fail
          refine (rotate_at F ok (a := r) (m := m) (b := e) rfl rfl (by omega) hat.1 q1 q2 (by omega) hn).mono ?_
          rintro x w1 ⟨rfl, d1, rfl, hI1, hU1⟩
          have hat1 := hat.next hI1 hU1
          obtain ⟨k0, k1⟩ := hat1.cells hBw
          clear hI1 hU1 c0 c1
          have q3 : r < mid := by omega
          have q4 : mid < e := by omega
          by_cases q5 : a < r
          · go_wp2_with fail
            refine ((ih a r mid (by omega) (by omega) (by omega) (by omega)).at rfl rfl (by omega) hat1.1 HH.out.A1 HH.out.B1 HH.out.X1).mono ?_
            rintro x w2 ⟨rfl, d2, hS2, hI2, hU2⟩
            have hat2 := hat1.next hI2 hU2
            obtain ⟨k2, k3⟩ := hat2.cells hBw
            have HS : Hid (F.Sorts _ a mid d2) := hS2
            clear hS2 hI2 hU2
            by_cases q6 : e < b
            · go_wp2_with fail
              refine ((ih mid e b (by omega) (by omega) (by omega) (by omega)).at (by omega) (by omega) rfl hat2.1 (HH.out.right HS.out.2 (by omega)).1 (HH.out.right HS.out.2 (by omega)).2.1 (HH.out.right HS.out.2 (by omega)).2.2).mono ?_
              rintro x w3 ⟨rfl, d3, hS3, hI3, hU3⟩
              have hat3 := hat2.next hI3 hU3
              go_wp2
              go_end0
              exact hat3.post (HH.out.done (by omega) (by omega) HS.out hS3)
            · exfalso; omega
          · have HL : F.Sorts _ a mid _ := HH.out.leftA (by omega)
            by_cases q6 : e < b
            · go_wp2_with fail
              refine ((ih mid e b (by omega) (by omega) (by omega) (by omega)).at (by omega) (by omega) rfl hat1.1 (HH.out.right HL.2 (by omega)).1 (HH.out.right HL.2 (by omega)).2.1 (HH.out.right HL.2 (by omega)).2.2).mono ?_
              rintro x w3 ⟨rfl, d3, hS3, hI3, hU3⟩
              have hat3 := hat1.next hI3 hU3
              go_wp2
              go_end0
              exact hat3.post (HH.out.done (by omega) (by omega) HL hS3)
            · go_wp2
              go_end0
              exact hat1.post (HH.out.done (by omega) (by omega) HL (HH.out.rightA HL.2 (by omega) (by omega)))
        · exfalso; omega
      · have q3 : r = m := by omega
        subst q3
        have HH2 : Hid (F.Half d d a r mid e b) := by have h := HH.out; rw [rot_none] at h; exact h
        clear HH
        have HH := HH2
        clear HH2
        obtain ⟨c0, c1⟩ := hat.cells hBw
        have q4 : e ≤ mid := by omega
        have q5 : a < r := by omega
        by_cases q6 : r < mid
        · go_wp2_with fail
          refine ((ih a r mid (by omega) (by omega) (by omega) (by omega)).at rfl rfl (by omega) hat.1 HH.out.A1 HH.out.B1 HH.out.X1).mono ?_
          rintro x w2 ⟨rfl, d2, hS2, hI2, hU2⟩
          have hat2 := hat.next hI2 hU2
          obtain ⟨k2, k3⟩ := hat2.cells hBw
          have HS : Hid (F.Sorts _ a mid d2) := hS2
          clear hS2 hI2 hU2
          go_wp2
          go_end0
          exact hat2.post (HH.out.done (by omega) (by omega) HS.out (HH.out.rightB HS.out.2 (by omega) (by omega)))
        · have HL : F.Sorts _ a mid _ := HH.out.leftB (by omega)
          go_wp2
          go_end0
          exact hat.post (HH.out.done (by omega) (by omega) HL (HH.out.rightB HL.2 (by omega) (by omega)))

/-- THE SYMMETRIC MERGE. -/
theorem sym_any (F : Fns) (ok : F.Ok) (or : F.Order) (hn : F.n ≤ 4096) : ∀ (N a m b : Nat), b - a ≤ N → a < m → m < b → b ≤ F.n → F.Sym a m b := by
  intro N
  induction N with
  | zero => intro a m b h h1 h2; omega
  | succ N ih =>
    intro a m b h h1 h2 h3
    by_cases c1 : m = a + 1
    · intro d w hI hA hB hX
      exact sym_first F ok or a m b (by omega) (by omega) d w hI h2 h3 hn hB (fun j h4 h5 => hX a j (Nat.le_refl _) h1 (by omega) h5)
    · by_cases c2 : b = m + 1
      · intro d w hI hA hB hX
        exact sym_last F ok or a m b (by omega) (by omega) (by omega) d w hI h3 hn hA (fun j h4 h5 => hX j m h4 h5 (Nat.le_refl _) h2)
      · have ih' : ∀ a' m' b', a' < m' → m' < b' → b' ≤ F.n → b' - a' < b - a → F.Sym a' m' b' := fun a' m' b' g1 g2 g3 g4 => ih a' m' b' (by omega) g1 g2 g3
        by_cases c3 : (a + b) / 2 < m
        · exact sym_gen1 F ok or a m b ((a + b) / 2) (by omega) (by omega) c3 (by omega) (by omega) h3 hn ih'
        · exact sym_gen2 F ok or a m b ((a + b) / 2) (by omega) (by omega) (by omega) (by omega) (by omega) h3 hn ih'
end Go.Proofs.Qxb6615733aFmt
