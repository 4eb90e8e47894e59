/-
  Seat b6615733aF: the plain side of sort.SliceStable, continued: the symmetric merge's halves, and the blocks.
-/
import Derived.Test.Qxb6615733aFmtPlainS
namespace Go.Proofs.Qxb6615733aFmt

section
variable {T : Nat → Nat → Prop}
/-- both halves are in order: the whole is. -/
theorem sym_join {f d1 d2 : Nat → Nat} {a mid b : Nat} (hx : ∀ i j, a ≤ i → i < mid → mid ≤ j → j < b → T (f i) (f j)) (h1 : Srt T d1 a mid) (r1 : Reach a mid f d1) (h2 : Srt T d2 mid b) (r2 : Reach mid b d1 d2) : Srt T d2 a b := by
  refine Srt.join (h1.same fun k hk1 hk2 => r2.out k (Or.inl hk2)) h2 ?_
  intro i j hi hi2 hj hj2
  rw [r2.out i (Or.inl hi2)]
  refine r2.all (fun y => T (d1 i) y) (fun k hk1 hk2 => ?_) j hj hj2
  rw [r1.out k (Or.inr hk1)]
  exact r1.all (fun x => T x (f k)) (fun l hl1 hl2 => hx l k hl1 hl2 hk1 hk2) i hi hi2
theorem rot_left (d : Nat → Nat) (s m e k : Nat) (h : k < s) : rot d s m e k = d k := by
  unfold rot; rw [if_neg (by omega), if_neg (by omega)]
theorem rot_right (d : Nat → Nat) (s m e k : Nat) (hm : m ≤ e) (hs : s ≤ m) (h : e ≤ k) : rot d s m e k = d k := by
  unfold rot; rw [if_neg (by omega), if_neg (by omega)]
theorem rot_mid1 (d : Nat → Nat) (s m e k : Nat) (h1 : s ≤ k) (h2 : k + m < s + e) : rot d s m e k = d (m + (k - s)) := by
  unfold rot; rw [if_pos (by omega)]
theorem rot_mid2 (d : Nat → Nat) (s m e k : Nat) (hm : m ≤ e) (h1 : s + e ≤ k + m) (h2 : k < e) : rot d s m e k = d (s + (k + m - (s + e))) := by
  unfold rot; rw [if_neg (by omega), if_pos (by omega)]; congr 1; omega
/-- what lies where behind the rotation: the four stretches. -/
theorem rot_A1 {d : Nat → Nat} {a m s e : Nat} (hA : Srt T d a m) (h2 : s ≤ m) : Srt T (rot d s m e) a s :=
  (hA.sub (Nat.le_refl _) h2).same fun k _ hk => rot_left d s m e k hk
theorem rot_B1 {d : Nat → Nat} {m b s e mid : Nat} (hB : Srt T d m b) (hse : s + e = mid + m) (h4 : e ≤ b) : Srt T (rot d s m e) s mid := by
  intro i j hi hij hj
  rw [rot_mid1 d s m e i hi (by omega), rot_mid1 d s m e j (by omega) (by omega)]
  exact hB _ _ (by omega) (by omega) (by omega)
theorem rot_A2 {d : Nat → Nat} {a m s e mid : Nat} (hA : Srt T d a m) (hse : s + e = mid + m) (h1 : a ≤ s) (h3 : m ≤ e) : Srt T (rot d s m e) mid e := by
  intro i j hi hij hj
  rw [rot_mid2 d s m e i h3 (by omega) (by omega), rot_mid2 d s m e j h3 (by omega) (by omega)]
  exact hA _ _ (by omega) (by omega) (by omega)
theorem rot_B2 {d : Nat → Nat} {m b s e : Nat} (hB : Srt T d m b) (h2 : s ≤ m) (h3 : m ≤ e) : Srt T (rot d s m e) e b :=
  (hB.sub h3 (Nat.le_refl _)).same fun k hk _ => rot_right d s m e k h3 h2 hk
/-- .. and the numbers of what comes from the left are less. -/
theorem rot_X1 {d : Nat → Nat} {a m b s e mid : Nat} (hX : ∀ i j, a ≤ i → i < m → m ≤ j → j < b → d i < d j) (hse : s + e = mid + m) (h2 : s ≤ m) (h4 : e ≤ b) : ∀ i j, a ≤ i → i < s → s ≤ j → j < mid → rot d s m e i < rot d s m e j := by
  intro i j hi hi2 hj hj2
  rw [rot_left d s m e i hi2, rot_mid1 d s m e j hj (by omega)]
  exact hX _ _ hi (by omega) (by omega) (by omega)
theorem rot_X2 {d : Nat → Nat} {a m b s e mid : Nat} (hX : ∀ i j, a ≤ i → i < m → m ≤ j → j < b → d i < d j) (hse : s + e = mid + m) (h1 : a ≤ s) (h2 : s ≤ m) (h3 : m ≤ e) : ∀ i j, mid ≤ i → i < e → e ≤ j → j < b → rot d s m e i < rot d s m e j := by
  intro i j hi hi2 hj hj2
  rw [rot_mid2 d s m e i h3 (by omega) hi2, rot_right d s m e j h3 h2 hj]
  exact hX _ _ (by omega) (by omega) (by omega) (by omega)
end
theorem rot_reach (d : Nat → Nat) (m lo hi : Nat) : ∀ (N i j : Nat), i + j ≤ N → 0 < i → 0 < j → lo + i ≤ m → m + j ≤ hi → Reach lo hi d (rot d (m - i) m (m + j)) := by
  intro N
  induction N generalizing d with
  | zero => intro i j h h1 h2; omega
  | succ N ih =>
    intro i j hN hi0 hj0 h1 h2
    by_cases c : i = j
    · subst c
      rw [← rot_end d m i (by omega)]
      exact swr_reach d (m - i) m i lo hi (by omega) (by omega) (by omega) i (Nat.le_refl _)
    · by_cases c2 : j < i
      · rw [← rot_big d m i j c2 (by omega)]
        exact (swr_reach d (m - i) m j lo hi (by omega) (by omega) (by omega) j (Nat.le_refl _)).trans (ih _ (i - j) j (by omega) (by omega) hj0 (by omega) (by omega))
      · rw [← rot_small d m i j (by omega) (by omega)]
        exact (swr_reach d (m - i) (m + j - i) i lo hi (by omega) (by omega) (by omega) i (Nat.le_refl _)).trans (ih _ i (j - i) (by omega) hi0 (by omega) (by omega) (by omega))
theorem rot_reach' (d : Nat → Nat) (a m b : Nat) (h1 : a < m) (h2 : m < b) : Reach a b d (rot d a m b) := by
  have := rot_reach d m a b _ (m - a) (b - m) (Nat.le_refl _) (by omega) (by omega) (by omega) (by omega)
  rwa [show m - (m - a) = a by omega, show m + (b - m) = b by omega] at this
end Go.Proofs.Qxb6615733aFmt
