/-
  Seat b6615733aF: the plain side of sort.SliceStable: swaps, rotations, the merge in place; no Go in sight.
-/
namespace Go.Proofs.Qxb6615733aFmt

/-- two places change over. -/
def swp (d : Nat → Nat) (i j : Nat) : Nat → Nat := fun k => if k = i then d j else if k = j then d i else d k
/-- what can be reached by swaps within [a, b). -/
def Reach (a b : Nat) (d e : Nat → Nat) : Prop := ∃ l : List (Nat × Nat), (∀ p ∈ l, a ≤ p.1 ∧ p.1 < b ∧ a ≤ p.2 ∧ p.2 < b) ∧ e = l.foldr (fun p f => swp f p.1 p.2) d
theorem Reach.refl {a b : Nat} {d : Nat → Nat} : Reach a b d d := ⟨[], (fun p hp => by cases hp), rfl⟩
theorem Reach.step {a b : Nat} {d e : Nat → Nat} {i j : Nat} (h : Reach a b d e) (h1 : a ≤ i) (h2 : i < b) (h3 : a ≤ j) (h4 : j < b) : Reach a b d (swp e i j) := by
  obtain ⟨l, hl, rfl⟩ := h
  refine ⟨(i, j) :: l, fun p hp => ?_, rfl⟩
  rcases List.mem_cons.mp hp with rfl | hp
  · exact ⟨h1, h2, h3, h4⟩
  · exact hl p hp
theorem Reach.ind {a b : Nat} {d : Nat → Nat} {P : (Nat → Nat) → Prop} (h0 : P d) (hs : ∀ e i j, P e → a ≤ i → i < b → a ≤ j → j < b → P (swp e i j)) {e : Nat → Nat} (h : Reach a b d e) : P e := by
  obtain ⟨l, hl, rfl⟩ := h
  induction l with
  | nil => exact h0
  | cons p l ih =>
    have hp := hl p List.mem_cons_self
    exact hs _ _ _ (ih fun q hq => hl q (List.mem_cons_of_mem _ hq)) hp.1 hp.2.1 hp.2.2.1 hp.2.2.2

theorem Reach.trans {a b : Nat} {d e f : Nat → Nat} (h : Reach a b d e) (k : Reach a b e f) : Reach a b d f :=
  Reach.ind (P := fun f => Reach a b d f) h (fun _ _ _ ih h1 h2 h3 h4 => ih.step h1 h2 h3 h4) k
theorem Reach.mono {a b a' b' : Nat} {d e : Nat → Nat} (h : Reach a b d e) (ha : a' ≤ a) (hb : b ≤ b') : Reach a' b' d e :=
  Reach.ind (P := fun f => Reach a' b' d f) .refl (fun _ _ _ ih h1 h2 h3 h4 => ih.step (by omega) (by omega) (by omega) (by omega)) h
theorem Reach.out {a b : Nat} {d e : Nat → Nat} (h : Reach a b d e) (k : Nat) (hk : k < a ∨ b ≤ k) : e k = d k :=
  Reach.ind (P := fun f => f k = d k) rfl (fun _ _ _ ih h1 h2 h3 h4 => by
    unfold swp
    rw [if_neg (by omega), if_neg (by omega), ih]) h
theorem Reach.all {a b : Nat} {d e : Nat → Nat} (h : Reach a b d e) (P : Nat → Prop) (hP : ∀ k, a ≤ k → k < b → P (d k)) : ∀ k, a ≤ k → k < b → P (e k) :=
  Reach.ind (P := fun f => ∀ k, a ≤ k → k < b → P (f k)) hP (fun e i j ih h1 h2 h3 h4 => by
    intro k hk1 hk2
    unfold swp
    split
    · exact ih _ h3 h4
    · split
      · exact ih _ h1 h2
      · exact ih _ hk1 hk2) h
/-- a row of different numbers stays one. -/
theorem Reach.inj {a b : Nat} {d e : Nat → Nat} (h : Reach a b d e) (hd : ∀ i j, d i = d j → i = j) : ∀ i j, e i = e j → i = j :=
  Reach.ind (P := fun f => ∀ i j, f i = f j → i = j) hd (fun e i j ih h1 h2 h3 h4 => by
    intro x y hxy
    unfold swp at hxy
    (repeat' split at hxy) <;> have := ih _ _ hxy <;> omega) h

/-- swapRange. -/
def swr (d : Nat → Nat) (a b n : Nat) : Nat → Nat := fun k => if a ≤ k ∧ k < a + n then d (b + (k - a)) else if b ≤ k ∧ k < b + n then d (a + (k - b)) else d k
theorem swr_zero (d : Nat → Nat) (a b : Nat) : swr d a b 0 = d := by
  funext k; unfold swr; rw [if_neg (by omega), if_neg (by omega)]
theorem swr_step (d : Nat → Nat) (a b n i : Nat) (hi : i < n) (h : a + n ≤ b) : swp (swr d a b i) (a + i) (b + i) = swr d a b (i + 1) := by
  funext k
  unfold swp swr
  (repeat' split) <;> first | (exfalso; omega) | (congr 1; omega) | rfl
theorem swr_reach (d : Nat → Nat) (a b n lo hi : Nat) (h : a + n ≤ b) (h1 : lo ≤ a) (h2 : b + n ≤ hi) : ∀ i, i ≤ n → Reach lo hi d (swr d a b i) := by
  intro i
  induction i with
  | zero => intro _; rw [swr_zero]; exact .refl
  | succ i ih =>
    intro hi'
    rw [← swr_step d a b n i (by omega) h]
    exact (ih (by omega)).step (by omega) (by omega) (by omega) (by omega)

/-- rotate: [a, m) and [m, b) change over. -/
def rot (d : Nat → Nat) (a m b : Nat) : Nat → Nat := fun k => if a ≤ k ∧ k < a + (b - m) then d (m + (k - a)) else if a + (b - m) ≤ k ∧ k < b then d (a + (k - (a + (b - m)))) else d k
theorem rot_big (e : Nat → Nat) (m i j : Nat) (h : j < i) (hm : i ≤ m) : rot (swr e (m - i) m j) (m - (i - j)) m (m + j) = rot e (m - i) m (m + j) := by
  funext k
  unfold rot swr
  (repeat' split) <;> first | (exfalso; omega) | (congr 1; omega) | rfl
theorem rot_small (e : Nat → Nat) (m i j : Nat) (h : i < j) (hm : i ≤ m) : rot (swr e (m - i) (m + j - i) i) (m - i) m (m + (j - i)) = rot e (m - i) m (m + j) := by
  funext k
  unfold rot swr
  (repeat' split) <;> first | (exfalso; omega) | (congr 1; omega) | rfl
theorem rot_end (e : Nat → Nat) (m i : Nat) (hm : i ≤ m) : swr e (m - i) m i = rot e (m - i) m (m + i) := by
  funext k
  unfold rot swr
  (repeat' split) <;> first | (exfalso; omega) | (congr 1; omega) | rfl
theorem rot_none (d : Nat → Nat) (a b : Nat) : rot d a a b = d := by
  funext k
  unfold rot
  (repeat' split) <;> first | (exfalso; omega) | (congr 1; omega) | rfl
theorem rot_none' (d : Nat → Nat) (a m : Nat) : rot d a m m = d := by
  funext k
  unfold rot
  (repeat' split) <;> first | (exfalso; omega) | (congr 1; omega) | rfl
/-- one place up: the first goes to the end. -/
theorem rot_up (d : Nat → Nat) (a k : Nat) (h : a ≤ k) : swp (rot d a (a + 1) (k + 1)) k (k + 1) = rot d a (a + 1) (k + 2) := by
  funext x
  unfold swp rot
  (repeat' split) <;> first | (exfalso; omega) | (congr 1; omega) | rfl
/-- one place down: the last goes to the front. -/
theorem rot_down (d : Nat → Nat) (m k : Nat) (h : k < m) : swp (rot d (k + 1) m (m + 1)) (k + 1) k = rot d k m (m + 1) := by
  funext x
  unfold swp rot
  (repeat' split) <;> first | (exfalso; omega) | (congr 1; omega) | rfl

section
variable (T : Nat → Nat → Prop)
/-- sorted in [a, b). -/
def Srt (d : Nat → Nat) (a b : Nat) : Prop := ∀ i j, a ≤ i → i < j → j < b → T (d i) (d j)
variable {T}
theorem Srt.sub {d : Nat → Nat} {a b a' b' : Nat} (h : Srt T d a b) (h1 : a ≤ a') (h2 : b' ≤ b) : Srt T d a' b' := fun i j hi hj hb => h i j (by omega) hj (by omega)
/-- two sorted halves, all of the one ahead of all of the other. -/
theorem Srt.join {d : Nat → Nat} {a m b : Nat} (h1 : Srt T d a m) (h2 : Srt T d m b) (h : ∀ i j, a ≤ i → i < m → m ≤ j → j < b → T (d i) (d j)) : Srt T d a b := by
  intro i j hi hij hj
  by_cases c : j < m
  · exact h1 i j hi hij c
  · by_cases c2 : i < m
    · exact h i j hi c2 (by omega) hj
    · exact h2 i j (by omega) hij hj
theorem Srt.same {d e : Nat → Nat} {a b : Nat} (h : Srt T d a b) (he : ∀ k, a ≤ k → k < b → e k = d k) : Srt T e a b := by
  intro i j hi hij hj
  rw [he i hi (by omega), he j (by omega) hj]
  exact h i j hi hij hj

/-- the first of [a, b) goes to its place: behind all of [a + 1, i). -/
theorem put_first {d : Nat → Nat} {a i b : Nat} (hs : Srt T d (a + 1) b) (hi : a + 1 ≤ i) (hib : i ≤ b) (h1 : ∀ k, a + 1 ≤ k → k < i → T (d k) (d a)) (h2 : ∀ k, i ≤ k → k < b → T (d a) (d k)) : Srt T (rot d a (a + 1) i) a b := by
  intro x y hx hxy hy
  unfold rot
  (repeat' split) <;> first
    | (exfalso; omega)
    | (have e : a + (x - (a + (i - (a + 1)))) = a := by omega
       rw [e]; exact h2 y (by omega) hy)
    | (have e : a + (y - (a + (i - (a + 1)))) = a := by omega
       rw [e]; exact h1 _ (by omega) (by omega))
    | exact hs _ _ (by omega) (by omega) (by omega)
/-- the last of [a, m] goes to its place: ahead of all of [i, m). -/
theorem put_last {d : Nat → Nat} {a i m : Nat} (hs : Srt T d a m) (hi : a ≤ i) (him : i ≤ m) (h1 : ∀ k, a ≤ k → k < i → T (d k) (d m)) (h2 : ∀ k, i ≤ k → k < m → T (d m) (d k)) : Srt T (rot d i m (m + 1)) a (m + 1) := by
  intro x y hx hxy hy
  unfold rot
  (repeat' split) <;> first
    | (exfalso; omega)
    | (have e : m + (x - i) = m := by omega
       rw [e]; exact h2 _ (by omega) (by omega))
    | (have e : m + (y - i) = m := by omega
       rw [e]; exact h1 x (by omega) (by omega))
    | exact hs _ _ (by omega) (by omega) (by omega)
/-- the bounds behind the search of a symmetric merge: the halves part. -/
theorem sym_parts {d : Nat → Nat} {a m b mid s e : Nat} (hA : Srt T d a m) (hB : Srt T d m b) (tr : ∀ x y z, T x y → T y z → T x z) (hse : s + e = mid + m) (h1 : a ≤ s) (h2 : s ≤ m) (h3 : m ≤ e) (h4 : e ≤ b)
    (hl : a < s → e < b → T (d (s - 1)) (d e)) (hr : s < m → m < e → T (d (e - 1)) (d s)) :
    ∀ i j, a ≤ i → i < mid → mid ≤ j → j < b → T (rot d s m e i) (rot d s m e j) := by
  intro i j hi hi2 hj hj2
  have pre : ∀ k, a ≤ k → k < s → ∀ l, e ≤ l → l < b → T (d k) (d l) := by
    intro k hk hk2 l hl1 hl2
    have t0 := hl (by omega) (by omega)
    have t1 : T (d k) (d e) := by
      by_cases c : k = s - 1
      · rw [c]; exact t0
      · exact tr _ _ _ (hA k (s - 1) hk (by omega) (by omega)) t0
    by_cases c : l = e
    · rw [c]; exact t1
    · exact tr _ _ _ t1 (hB e l h3 (by omega) hl2)
  have post : ∀ k, m ≤ k → k < e → ∀ l, s ≤ l → l < m → T (d k) (d l) := by
    intro k hk hk2 l hl1 hl2
    have t0 := hr (by omega) (by omega)
    have t1 : T (d k) (d s) := by
      by_cases c : k = e - 1
      · rw [c]; exact t0
      · exact tr _ _ _ (hB k (e - 1) hk (by omega) (by omega)) t0
    by_cases c : l = s
    · rw [c]; exact t1
    · exact tr _ _ _ t1 (hA s l h1 (by omega) hl2)
  unfold rot
  (repeat' split) <;> first
    | (exfalso; omega)
    | exact hA _ _ (by omega) (by omega) (by omega)
    | exact hB _ _ (by omega) (by omega) (by omega)
    | exact pre _ (by omega) (by omega) _ (by omega) (by omega)
    | exact post _ (by omega) (by omega) _ (by omega) (by omega)
end
end Go.Proofs.Qxb6615733aFmt
