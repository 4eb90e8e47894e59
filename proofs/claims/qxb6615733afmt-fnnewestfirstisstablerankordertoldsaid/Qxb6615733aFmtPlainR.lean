/-
  Seat b6615733aF: the rank order is the sorted order.
-/
import Derived.Test.Qxb6615733aFmtWalkQ
namespace Go.Proofs.Qxb6615733aFmt

/-- how many below n. -/
def cnt (g : Nat → Bool) : Nat → Nat
  | 0 => 0
  | n + 1 => cnt g n + (if g n then 1 else 0)
theorem cnt_congr {f g : Nat → Bool} : ∀ (n : Nat), (∀ k, k < n → f k = g k) → cnt f n = cnt g n
  | 0, _ => rfl
  | n + 1, h => by unfold cnt; rw [cnt_congr n (fun k hk => h k (by omega)), h n (by omega)]
theorem cnt_upd (g : Nat → Bool) (i : Nat) (b : Bool) : ∀ n, i < n → cnt (fun k => if k = i then b else g k) n + (if g i then 1 else 0) = cnt g n + (if b then 1 else 0)
  | 0, h => by omega
  | n + 1, h => by
    unfold cnt
    by_cases e : n = i
    · subst e
      have : cnt (fun k => if k = n then b else g k) n = cnt g n := cnt_congr n (fun k hk => if_neg (by omega))
      rw [this, if_pos rfl]
      omega
    · have := cnt_upd g i b n (by omega)
      rw [if_neg e]
      omega
theorem cnt_swap (g : Nat → Bool) (i j n : Nat) (hi : i < n) (hj : j < n) : cnt (fun k => if k = i then g j else if k = j then g i else g k) n = cnt g n := by
  by_cases e : i = j
  · subst e
    exact cnt_congr n (fun k _ => by
      by_cases c : k = i
      · subst c; simp
      · simp [c])
  · have h1 := cnt_upd g j (g i) n hj
    have h2 := cnt_upd (fun k => if k = j then g i else g k) i (g j) n hi
    simp only [if_neg e] at h2
    omega
theorem Reach.cnt {n : Nat} {d : Nat → Nat} (h : Reach 0 n (fun i => i) d) (f : Nat → Bool) : Qxb6615733aFmt.cnt (fun q => f (d q)) n = Qxb6615733aFmt.cnt f n :=
  Reach.ind (P := fun e => Qxb6615733aFmt.cnt (fun q => f (e q)) n = Qxb6615733aFmt.cnt f n) rfl (fun e i j ih _ hi _ hj => by
    have := cnt_swap (fun q => f (e q)) i j n hi hj
    rw [← ih, ← this]
    refine cnt_congr n (fun k _ => ?_)
    unfold swp
    by_cases c : k = i
    · simp [c]
    · by_cases c2 : k = j
      · rw [if_neg c, if_pos c2, if_neg c, if_pos c2]
      · rw [if_neg c, if_neg c2, if_neg c, if_neg c2]) h
theorem Reach.onto {n : Nat} {d : Nat → Nat} (h : Reach 0 n (fun i => i) d) : ∀ y, y < n → ∃ q, q < n ∧ d q = y :=
  Reach.ind (P := fun e => ∀ y, y < n → ∃ q, q < n ∧ e q = y) (fun y hy => ⟨y, hy, rfl⟩) (fun e i j ih _ hi _ hj => by
    intro y hy
    obtain ⟨q, hq, rfl⟩ := ih y hy
    by_cases c : q = i
    · subst c
      refine ⟨j, hj, ?_⟩
      unfold swp
      by_cases c2 : j = q
      · rw [if_pos c2, c2]
      · rw [if_neg c2, if_pos rfl]
    · by_cases c2 : q = j
      · subst c2
        exact ⟨i, hi, by unfold swp; rw [if_pos rfl]⟩
      · exact ⟨q, hq, by unfold swp; rw [if_neg c, if_neg c2]⟩) h
theorem rk_cnt (xs : List St) (i : Nat) : ∀ J, rk xs i J = cnt (beat xs i) J
  | 0 => rfl
  | J + 1 => by rw [rk_succ, rk_cnt xs i J]; rfl
theorem cnt_af (xs : List St) (b : Nat → Bool) (hb : ∀ k, b k = true → (X xs k).failed = false) : ∀ i, cnt b i = ((af xs i).filter b).length
  | 0 => rfl
  | i + 1 => by
    unfold cnt
    rw [cnt_af xs b hb i, af_succ]
    cases hf : (X xs i).failed with
    | true =>
      have : b i = false := by
        cases h : b i with
        | false => rfl
        | true => have := hb i h; rw [hf] at this; cases this
      rw [this]; simp
    | false =>
      simp only [Bool.false_eq_true, if_false, List.filter_append, List.length_append]
      cases h : b i <;> simp [h]
theorem filter_cnt (L : List Nat) (b : Nat → Bool) (z : Nat) : ∀ n, n ≤ L.length → ((L.take n).filter b).length = cnt (fun q => b ((L[q]?).getD z)) n
  | 0, _ => rfl
  | n + 1, h => by
    unfold cnt
    rw [List.take_succ_eq_append_getElem (by omega), List.filter_append, List.length_append, filter_cnt L b z n (by omega)]
    have e : (L[n]?).getD z = L[n] := by rw [List.getElem?_eq_getElem (by omega)]; rfl
    rw [e]
    cases hb : b L[n] <;> simp [hb]
theorem rk_pos (xs : List St) (j : Nat) : rk xs j xs.length = cnt (fun q => beat xs j (idx xs q)) (af xs xs.length).length := by
  rw [rk_cnt, cnt_af xs (beat xs j) (fun k hk => by unfold beat at hk; simp at hk; exact hk.1.1) xs.length]
  have := filter_cnt (af xs xs.length) (beat xs j) ((af xs xs.length).headD 0) (af xs xs.length).length (Nat.le_refl _)
  rw [List.take_length] at this
  exact this
theorem af_lt (xs : List St) : ∀ (i p q a b : Nat), p < q → (af xs i)[p]? = some a → (af xs i)[q]? = some b → a < b
  | 0, p, q, a, b, _, h, _ => by unfold af at h; simp at h
  | i + 1, p, q, a, b, hpq, h1, h2 => by
    rw [af_succ] at h1 h2
    cases hf : (X xs i).failed with
    | true => rw [hf] at h1 h2; exact af_lt xs i p q a b hpq h1 h2
    | false =>
      rw [hf] at h1 h2
      simp only [Bool.false_eq_true, if_false] at h1 h2
      have hq := (List.getElem?_eq_some_iff.1 h2).1
      simp only [List.length_append, List.length_singleton] at hq
      rw [List.getElem?_append_left (by omega)] at h1
      by_cases c : q < (af xs i).length
      · rw [List.getElem?_append_left c] at h2
        exact af_lt xs i p q a b hpq h1 h2
      · rw [List.getElem?_append_right (by omega), show q - (af xs i).length = 0 by omega] at h2
        simp at h2
        subst h2
        exact (af_mem (List.mem_of_getElem? h1)).1
theorem idx_lt {xs : List St} {p q : Nat} (hpq : p < q) (hq : q < (af xs xs.length).length) : idx xs p < idx xs q := af_lt xs xs.length p q _ _ hpq (idx_at (by omega)) (idx_at hq)
theorem nT_beat {xs : List St} {x y : Nat} (hx : x < (af xs xs.length).length) (hy : y < (af xs xs.length).length) : beat xs (idx xs y) (idx xs x) = true ↔ nT xs x y := by
  have hfx := (af_mem (idx_mem (xs := xs) (by omega) x)).2
  unfold beat nT
  rw [hfx]
  by_cases e : x = y
  · subst e
    simp only [bne_self_eq_false]
    have h1 := newer_iff (X xs (idx xs x)) (X xs (idx xs x))
    constructor
    · intro h; simp at h
    · rintro (h | ⟨_, h⟩)
      · rw [h1] at h; omega
      · omega
  · have hne : idx xs x ≠ idx xs y := by
      rcases Nat.lt_or_gt_of_ne e with h | h
      · have := idx_lt h hy; omega
      · have := idx_lt h hx; omega
    have hlt : idx xs x < idx xs y ↔ x < y := by
      constructor
      · intro h
        rcases Nat.lt_or_gt_of_ne e with h2 | h2
        · exact h2
        · have := idx_lt h2 hx; omega
      · intro h; exact idx_lt h hy
    simp only [Bool.not_false, Bool.true_and, bne_iff_ne, ne_eq, hne, not_false_eq_true, Bool.and_eq_true, Bool.or_eq_true, decide_eq_true_eq, Bool.not_eq_true', true_and]
    rw [hlt]
    constructor
    · rintro (h | ⟨h, h2⟩)
      · exact Or.inl h
      · exact Or.inr ⟨h2, h⟩
    · rintro (h | ⟨h, h2⟩)
      · exact Or.inl h
      · exact Or.inr ⟨h2, h⟩
theorem nT_asymm {xs : List St} {x y : Nat} (h1 : nT xs x y) (h2 : nT xs y x) : False := by
  unfold nT at h1 h2
  simp only [newer_iff, newer_not] at h1 h2
  omega
theorem cnt_below : ∀ (n p : Nat), p ≤ n → cnt (fun q => decide (q < p)) n = p
  | 0, p, h => by unfold cnt; omega
  | n + 1, p, h => by
    unfold cnt
    by_cases e : p ≤ n
    · rw [cnt_below n p e]; simp; omega
    · have : p = n + 1 := by omega
      subst this
      have : cnt (fun q => decide (q < n + 1)) n = cnt (fun q => decide (q < n)) n := cnt_congr n (fun k hk => by simp; omega)
      rw [this, cnt_below n n (Nat.le_refl _)]; simp
/-- the rank of what stands at p is p. -/
theorem rank_at {xs : List St} {d : Nat → Nat} (hs : Srt (nT xs) d 0 (af xs xs.length).length) (hr : Reach 0 (af xs xs.length).length (fun i => i) d) {p : Nat} (hp : p < (af xs xs.length).length) : rk xs (idx xs (d p)) xs.length = p := by
  have hd : ∀ q, q < (af xs xs.length).length → d q < (af xs xs.length).length := fun q hq => hr.all (fun x => x < (af xs xs.length).length) (fun k _ hk => hk) q (Nat.zero_le _) hq
  rw [rk_pos, ← hr.cnt, cnt_congr (g := fun q => decide (q < p)) _ (fun q hq => ?_), cnt_below _ _ (by omega)]
  have hb := nT_beat (hd q hq) (hd p hp)
  by_cases c : q < p
  · rw [hb.2 (hs q p (Nat.zero_le _) c hp)]; simp [c]
  · have hn : ¬ nT xs (d q) (d p) := by
      intro h
      by_cases e : q = p
      · subst e; exact nT_asymm h h
      · exact nT_asymm h (hs p q (Nat.zero_le _) (by omega) hq)
    cases hv : beat xs (idx xs (d p)) (idx xs (d q)) with
    | false => simp [c]
    | true => exact absurd (hb.1 hv) hn
theorem ordf_at {xs : List St} {d : Nat → Nat} (hs : Srt (nT xs) d 0 (af xs xs.length).length) (hr : Reach 0 (af xs xs.length).length (fun i => i) d) {p : Nat} (hp : p < (af xs xs.length).length) :
    ∀ i, i ≤ xs.length → idx xs (d p) < i → ordf xs (af xs xs.length).length i p = idx xs (d p)
  | 0, _, h => by omega
  | i + 1, hi, h => by
    have hd : ∀ q, q < (af xs xs.length).length → d q < (af xs xs.length).length := fun q hq => hr.all (fun x => x < (af xs xs.length).length) (fun k _ hk => hk) q (Nat.zero_le _) hq
    have hmem := af_mem (idx_mem (xs := xs) (by omega) (d p))
    unfold ordf
    cases hf : (X xs i).failed with
    | true =>
      simp only [if_true]
      have hne : idx xs (d p) ≠ i := by intro e; rw [e, hf] at hmem; exact absurd hmem.2 (by decide)
      exact ordf_at hs hr hp i (by omega) (by omega)
    | false =>
      simp only [Bool.false_eq_true, if_false]
      by_cases e : idx xs (d p) = i
      · have hrk := rank_at hs hr hp
        rw [e] at hrk
        rw [hrk, if_pos hp, e]
        unfold upd; rw [if_pos rfl]
      · have ih := ordf_at hs hr hp i (by omega) (by omega)
        by_cases c : rk xs i xs.length < (af xs xs.length).length
        · rw [if_pos c]
          unfold upd
          rw [if_neg ?_]
          · exact ih
          · intro hpe
            have hiaf : i ∈ af xs xs.length := by unfold af; simp; exact ⟨by omega, hf⟩
            obtain ⟨y, hy, hye⟩ := List.mem_iff_getElem.1 hiaf
            obtain ⟨q, hq, hdq⟩ := hr.onto y hy
            have hix : idx xs (d q) = i := by
              have := idx_at (xs := xs) hy
              rw [getSome hy, hye] at this
              rw [hdq]; exact (Option.some.inj this).symm
            have hrq := rank_at hs hr hq
            rw [hix, ← hpe] at hrq
            subst hrq
            exact e hix
        · rw [if_neg c]; exact ih
theorem nAns_af (xs : List St) : nAns xs = (af xs xs.length).length := by
  have key : ∀ i, i ≤ xs.length → nAns (xs.take i) = (af xs i).length := by
    intro i
    induction i with
    | zero => intro _; rfl
    | succ i ih =>
      intro h
      rw [nAns_succ xs i (by omega), af_succ, ih (by omega)]
      have e : X xs i = xs[i] := by unfold X; rw [getSome (by omega)]; rfl
      rw [e]
      cases xs[i].failed <;> simp
  have := key xs.length (Nat.le_refl _)
  rwa [List.take_length] at this
end Go.Proofs.Qxb6615733aFmt
