/-
  Seat b6615733aF: sort.stable_func, at whatever length up to 4096.
-/
import Derived.Test.Qxb6615733aFmtWalkS2
import Derived.Test.Qxb6615733aFmtWalkS4
namespace Go.Proofs.Qxb6615733aFmt
open Go.RowKit

theorem mul_step {j k B : Nat} (h : j < k) : j * B + B ≤ k * B := by
  have := Nat.mul_le_mul_right B (Nat.succ_le_of_lt h)
  rwa [Nat.succ_mul] at this
theorem mul_two (k B : Nat) : 2 * k * B = k * (2 * B) := by rw [Nat.mul_comm 2 k, Nat.mul_assoc]
theorem mul_two1 (k B : Nat) : (2 * k + 1) * B = k * (2 * B) + B := by rw [Nat.add_mul, mul_two, Nat.one_mul]
theorem Fns.Good.same {F : Fns} {d e : Nat → Nat} {a b : Nat} (h : F.Good d a b) (he : ∀ k, a ≤ k → k < b → e k = d k) : F.Good e a b :=
  ⟨h.1.same he, fun k h1 h2 => by rw [he k h1 h2]; exact h.2 k h1 h2⟩
/-- two neighbours that are good are merged into one. -/
theorem Fns.Good.merge {F : Fns} {d e : Nat → Nat} {a m b : Nat} (h1 : F.Good d a m) (h2 : F.Good d m b) (ham : a ≤ m) (hmb : m ≤ b) (hs : F.Sorts d a b e) : F.Good e a b := by
  refine ⟨hs.1, hs.2.all (fun x => a ≤ x ∧ x < b) (fun k k1 k2 => ?_)⟩
  by_cases c : k < m
  · have := h1.2 k k1 c; omega
  · have := h2.2 k (by omega) k2; omega
theorem Fns.Good.cross {F : Fns} {d : Nat → Nat} {a m b : Nat} (h1 : F.Good d a m) (h2 : F.Good d m b) : ∀ i j, a ≤ i → i < m → m ≤ j → j < b → d i < d j := by
  intro i j g1 g2 g3 g4
  have := h1.2 i g1 g2
  have := h2.2 j g3 g4
  omega
def Fns.Blocks (F : Fns) (d : Nat → Nat) (bs : Nat) : Prop := ∀ j, j * bs < F.n → F.Good d (j * bs) (min (j * bs + bs) F.n)
/-- the first loop. -/
def Fns.P1 (F : Fns) (w : World) (va vb : Value) (wr : World) : Prop :=
  ∃ (k a : Nat) (d : Nat → Nat), a = k * 20 ∧ va = .int .i64 a ∧ vb = .int .i64 ((a : Int) + 20) ∧ a ≤ F.n ∧ (∀ j, j < k → F.Good d (j * 20) (j * 20 + 20)) ∧ (∀ i, a ≤ i → d i = i) ∧ Reach 0 F.n (fun i => i) d ∧ F.At w d wr
theorem Fns.P1.next {F : Fns} {w wr : World} {k a : Nat} {d e : Nat → Nat} {x y : Int} (hx : x = (a : Int) + 20) (hy : y = (a : Int) + 20 + 20) (ha : a = k * 20) (hn : a + 20 ≤ F.n) (h1 : ∀ j, j < k → F.Good d (j * 20) (j * 20 + 20)) (h2 : ∀ i, a ≤ i → d i = i) (h3 : Reach 0 F.n (fun i => i) d)
    (hg : F.Good e a (a + 20)) (hr : Reach a (a + 20) d e) (hat : F.At w e wr) : F.P1 w (.int .i64 x) (.int .i64 y) wr := by
  refine ⟨k + 1, a + 20, e, by omega, by rw [hx]; rfl, by rw [hy]; rfl, hn, fun j hj => ?_, fun i hi => ?_, h3.trans (hr.mono (Nat.zero_le _) hn), hat⟩
  · by_cases c : j < k
    · exact (h1 j c).same fun i g1 g2 => hr.out i (Or.inl (by omega))
    · rw [show j * 20 = a by omega]; exact hg
  · rw [hr.out i (Or.inr hi)]; exact h2 i (by omega)
theorem Fns.P1.done {F : Fns} {k a : Nat} {d e : Nat → Nat} (ha : a = k * 20) (hn : a ≤ F.n) (hn2 : F.n < a + 20) (h1 : ∀ j, j < k → F.Good d (j * 20) (j * 20 + 20)) (hg : F.Good e a F.n) (hr : Reach a F.n d e) : F.Blocks e 20 := by
  intro j hj
  by_cases c : j < k
  · rw [Nat.min_eq_left (by omega)]
    exact (h1 j c).same fun i g1 g2 => hr.out i (Or.inl (by omega))
  · rw [show j * 20 = a by omega, Nat.min_eq_right (by omega)]; exact hg
/-- the second loop. -/
def Fns.P2 (F : Fns) (w : World) (v : Value) (wr : World) : Prop :=
  ∃ (bs : Nat) (d : Nat → Nat), v = .int .i64 bs ∧ 20 ≤ bs ∧ bs ≤ 2 * F.n + 20 ∧ F.Blocks d bs ∧ Reach 0 F.n (fun i => i) d ∧ F.At w d wr
/-- the loop within. -/
def Fns.P3 (F : Fns) (w : World) (bs : Nat) (va vb : Value) (wr : World) : Prop :=
  ∃ (k a : Nat) (d : Nat → Nat), a = k * (2 * bs) ∧ va = .int .i64 a ∧ vb = .int .i64 ((a : Int) + 2 * (bs : Int)) ∧ a ≤ F.n ∧ (∀ j, j < k → F.Good d (j * (2 * bs)) (j * (2 * bs) + 2 * bs)) ∧ (∀ j, 2 * k ≤ j → j * bs < F.n → F.Good d (j * bs) (min (j * bs + bs) F.n)) ∧ Reach 0 F.n (fun i => i) d ∧ F.At w d wr
theorem Fns.P3.left {F : Fns} {bs k a : Nat} {d : Nat → Nat} (ha : a = k * (2 * bs)) (h2 : ∀ j, 2 * k ≤ j → j * bs < F.n → F.Good d (j * bs) (min (j * bs + bs) F.n)) (hn : a < F.n) : F.Good d a (min (a + bs) F.n) := by
  have := h2 (2 * k) (Nat.le_refl _) (by rw [mul_two, ← ha]; exact hn)
  rwa [mul_two, ← ha] at this
theorem Fns.P3.right {F : Fns} {bs k a : Nat} {d : Nat → Nat} (ha : a = k * (2 * bs)) (h2 : ∀ j, 2 * k ≤ j → j * bs < F.n → F.Good d (j * bs) (min (j * bs + bs) F.n)) (hn : a + bs < F.n) : F.Good d (a + bs) (min (a + bs + bs) F.n) := by
  have := h2 (2 * k + 1) (by omega) (by rw [mul_two1, ← ha]; exact hn)
  rwa [mul_two1, ← ha] at this
theorem Fns.P3.next {F : Fns} {w wr : World} {bs k a : Nat} {d e : Nat → Nat} {x y : Int} (hx : x = (a : Int) + 2 * (bs : Int)) (hy : y = (a : Int) + 2 * (bs : Int) + 2 * (bs : Int)) (ha : a = k * (2 * bs)) (hn : a + 2 * bs ≤ F.n)
    (h1 : ∀ j, j < k → F.Good d (j * (2 * bs)) (j * (2 * bs) + 2 * bs)) (h2 : ∀ j, 2 * k ≤ j → j * bs < F.n → F.Good d (j * bs) (min (j * bs + bs) F.n)) (h3 : Reach 0 F.n (fun i => i) d)
    (hg : F.Good e a (a + 2 * bs)) (hr : Reach a (a + 2 * bs) d e) (hat : F.At w e wr) : F.P3 w bs (.int .i64 x) (.int .i64 y) wr := by
  have hak : (k + 1) * (2 * bs) = a + 2 * bs := by rw [Nat.succ_mul, ← ha]
  refine ⟨k + 1, a + 2 * bs, e, hak.symm, by rw [hx]; congr 1, by rw [hy]; congr 1, hn, fun j hj => ?_, fun j hj hjn => ?_, h3.trans (hr.mono (Nat.zero_le _) hn), hat⟩
  · by_cases c : j < k
    · have := mul_step (B := 2 * bs) c
      exact (h1 j c).same fun i g1 g2 => hr.out i (Or.inl (by omega))
    · have : j = k := by omega
      subst this
      rw [← ha]; exact hg
  · have h0 : a + 2 * bs ≤ j * bs := by
      have := Nat.mul_le_mul_right bs hj
      rw [mul_two, hak] at this; exact this
    exact (h2 j (by omega) hjn).same fun i g1 g2 => hr.out i (Or.inr (by omega))
theorem Fns.P3.done {F : Fns} {bs k a : Nat} {d e : Nat → Nat} (ha : a = k * (2 * bs)) (hn : a ≤ F.n) (hn2 : F.n < a + 2 * bs) (h1 : ∀ j, j < k → F.Good d (j * (2 * bs)) (j * (2 * bs) + 2 * bs)) (hg : a < F.n → F.Good e a F.n) (hr : Reach a F.n d e) : F.Blocks e (2 * bs) := by
  intro j hj
  by_cases c : j < k
  · have := mul_step (B := 2 * bs) c
    rw [Nat.min_eq_left (by omega)]
    exact (h1 j c).same fun i g1 g2 => hr.out i (Or.inl (by omega))
  · have : j = k := by
      rcases Nat.lt_or_ge k j with h | h
      · have := mul_step (B := 2 * bs) h; omega
      · omega
    subst this
    rw [← ha] at hj ⊢
    rw [Nat.min_eq_right (by omega)]; exact hg hj
theorem Fns.Blocks.whole {F : Fns} {d : Nat → Nat} {bs : Nat} (h : F.Blocks d bs) (hb : F.n ≤ bs) : Srt F.T d 0 F.n := by
  by_cases c : 0 < F.n
  · have := h 0 (by omega)
    rw [Nat.zero_mul, Nat.min_eq_right (by omega)] at this
    exact this.1
  · intro i j h1 h2 h3; omega
theorem insertion_at (F : Fns) (ok : F.Ok) (or : F.Order) {a b : Nat} {x y : Int} (hx : x = (a : Int)) (hy : y = (b : Int)) {d : Nat → Nat} {w : World} (hI : F.I d w) (hab : a ≤ b) (h3 : b ≤ F.n) (hn : F.n ≤ 4096) (hd : ∀ k, a ≤ k → d k = k) :
    Calls Tryf.prog 35 #[.agg #[.func (.func F.g) #[] F.lb, .func (.func F.sf) #[] F.sb], .int .i64 x, .int .i64 y] w (F.Post w fun d' => F.Good d' a b ∧ Reach a b d d') := by
  subst hx hy
  exact insertion_any F ok or a b d w hI hab h3 hn (fun k h1 _ => hd k h1)

set_option maxHeartbeats 8000000 in
set_option maxRecDepth 100000 in
theorem stable_any (F : Fns) (ok : F.Ok) (or : F.Order) (hn : F.n ≤ 4096) (w : World) (hI : F.I (fun i => i) w) :
    Calls Tryf.prog 23 #[F.data, .int .i64 F.n] w (F.Post w fun d' => Srt F.T d' 0 F.n ∧ Reach 0 F.n (fun i => i) d') := by
  have hBw := ok.size _ w hI
  have hA : F.At w (fun i => i) (w.alloc F.box) := ⟨ok.alloc _ _ _ hI, Up.refl _ _⟩
  unfold Fns.data
  unfold Fns.box at hA
  go_enter Tryf.func23, Tryf.ntmps23
  go_wp2_with fail
  go_loopw [5, 6] (fun va vb wr => F.P1 w va vb wr) (fun va _ _ => F.n + 1 - (intOf va).toNat)
  case atStart => exact ⟨0, 0, fun i => i, rfl, rfl, rfl, Nat.zero_le _, fun j hj => by omega, fun i _ => rfl, .refl, hA⟩
  case round =>
    obtain ⟨k, a, d, ha, rfl, rfl, han, h1, h2, h3, hat⟩ := hrel
    obtain ⟨c0, c1⟩ := hat.cells hBw
    have Ha : Hid _ := ha
    have H1 : Hid _ := h1
    have H2 : Hid _ := h2
    have H3 : Hid _ := h3
    clear ha h1 h2 h3
    by_cases hb : a + 20 ≤ F.n
    · go_wp2_with fail
      refine (insertion_at F ok or (a := a) (b := a + 20) rfl (by omega) hat.1 (by omega) hb hn H2.out).mono ?_
      rintro x w1 ⟨rfl, d1, ⟨hg, hr⟩, hI1, hU1⟩
      have hat1 := hat.next hI1 hU1
      clear hI1 hU1 hat c0 c1
      go_wp2
      go_roundw
      case rel => exact Fns.P1.next (by omega) (by omega) Ha.out hb H1.out H2.out H3.out hg hr hat1
      case measure => simp [intOf]; omega
    · go_wp2_with fail
      refine (insertion_at F ok or (a := a) (b := F.n) rfl rfl hat.1 han (Nat.le_refl _) hn H2.out).mono ?_
      rintro x w1 ⟨rfl, d1, ⟨hg, hr⟩, hI1, hU1⟩
      have hat1 := hat.next hI1 hU1
      have HB : Hid (F.Blocks d1 20) := Fns.P1.done Ha.out han (by omega) H1.out hg hr
      have HR : Hid (Reach 0 F.n (fun i => i) d1) := Reach.trans H3.out (hr.mono (Nat.zero_le _) (Nat.le_refl _))
      clear hI1 hU1 hat c0 c1 hg hr H1 H2 H3 Ha
      go_wp2_with fail
      go_loopw [4] (fun v wr => F.P2 w v wr) (fun v _ => F.n - (intOf v).toNat)
      case atStart => exact ⟨20, d1, rfl, Nat.le_refl _, by omega, HB.out, HR.out, hat1⟩
      case round =>
        obtain ⟨bs, d2, rfl, hb1, hb2, hbl, hr2, hat2⟩ := hrel
        have HB2 : Hid _ := hbl
        have HR2 : Hid _ := hr2
        clear hbl hr2 HB HR hat1
        by_cases hlt : bs < F.n
        · go_wp2_with fail
          go_loopw [5, 6] (fun va vb wr => F.P3 w bs va vb wr) (fun va _ _ => F.n + 1 - (intOf va).toNat)
          case atStart => exact ⟨0, 0, d2, (Nat.zero_mul _).symm, rfl, by congr 1; omega, Nat.zero_le _, fun j hj => by omega, fun j _ hj => HB2.out j hj, HR2.out, hat2⟩
          case round =>
            obtain ⟨k3, a3, d3, ha, rfl, rfl, han3, h1, h2, h3, hat3⟩ := hrel
            obtain ⟨c0, c1⟩ := hat3.cells hBw
            have Ha : Hid _ := ha
            have H1 : Hid _ := h1
            have H2 : Hid _ := h2
            have H3 : Hid _ := h3
            clear ha h1 h2 h3 HB2 HR2 hat2
            by_cases hb3 : a3 + 2 * bs ≤ F.n
            · have hL := Fns.P3.left Ha.out H2.out (by omega)
              have hR := Fns.P3.right Ha.out H2.out (by omega)
              rw [Nat.min_eq_left (by omega)] at hL hR
              rw [show a3 + bs + bs = a3 + 2 * bs by omega] at hR
              have HL : Hid _ := hL
              have HR : Hid _ := hR
              clear hL hR
              go_wp2_with fail
              refine ((sym_any F ok or hn _ a3 (a3 + bs) (a3 + 2 * bs) (Nat.le_refl _) (by omega) (by omega) hb3).at rfl (by omega) (by omega) hat3.1 HL.out.1 HR.out.1 (Fns.Good.cross HL.out HR.out)).mono ?_
              rintro x w4 ⟨rfl, d4, hS, hI4, hU4⟩
              have hat4 := hat3.next hI4 hU4
              clear hI4 hU4 hat3 c0 c1
              go_wp2
              go_roundw
              case rel => exact Fns.P3.next (by omega) (by omega) Ha.out hb3 H1.out H2.out H3.out (Fns.Good.merge HL.out HR.out (by omega) (by omega) hS) hS.2 hat4
              case measure => simp [intOf]; omega
            · by_cases hm3 : a3 + bs < F.n
              · have hL := Fns.P3.left Ha.out H2.out (by omega)
                have hR := Fns.P3.right Ha.out H2.out (by omega)
                rw [Nat.min_eq_left (by omega)] at hL
                rw [Nat.min_eq_right (by omega)] at hR
                have HL : Hid _ := hL
                have HR : Hid _ := hR
                clear hL hR
                go_wp2_with fail
                refine ((sym_any F ok or hn _ a3 (a3 + bs) F.n (Nat.le_refl _) (by omega) (by omega) (Nat.le_refl _)).at rfl (by omega) rfl hat3.1 HL.out.1 HR.out.1 (Fns.Good.cross HL.out HR.out)).mono ?_
                rintro x w4 ⟨rfl, d4, hS, hI4, hU4⟩
                have hat4 := hat3.next hI4 hU4
                clear hI4 hU4 hat3 c0 c1
                go_wp2
                go_roundw
                case rel => exact ⟨2 * bs, d4, by congr 1; omega, by omega, by omega, Fns.P3.done Ha.out han3 (by omega) H1.out (fun _ => Fns.Good.merge HL.out HR.out (by omega) (by omega) hS) hS.2, Reach.trans H3.out (hS.2.mono (Nat.zero_le _) (Nat.le_refl _)), hat4⟩
                case measure => simp [intOf]; omega
              · have hG : a3 < F.n → F.Good d3 a3 F.n := fun h => by
                  have := Fns.P3.left Ha.out H2.out h
                  rwa [Nat.min_eq_right (by omega)] at this
                have HG : Hid _ := hG
                clear hG c0 c1
                go_wp2
                go_roundw
                case rel => exact ⟨2 * bs, d3, by congr 1; omega, by omega, by omega, Fns.P3.done Ha.out han3 (by omega) H1.out HG.out .refl, H3.out, hat3⟩
                case measure => simp [intOf]; omega
        · have HW : Hid (Srt F.T d2 0 F.n ∧ Reach 0 F.n (fun i => i) d2) := ⟨Fns.Blocks.whole HB2.out (by omega), HR2.out⟩
          go_wp2
          go_end0
          exact hat2.post HW.out
end Go.Proofs.Qxb6615733aFmt
