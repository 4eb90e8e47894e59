/-
  Seat b6615733aF: NewestFirst's comparison.
-/
import Derived.Test.Qxb6615733aFmtWalkG
namespace Go.Proofs.Qxb6615733aFmt
open Go.RowKit
attribute [local go_sem ↓] Go.wp_at_zero Go.wp_at_succ

/-- a copy's six cells. -/
def cpC (x : St) (ao : Option Addr) (c : Nat) : Array Value := #[.int .u64 x.first, .int .u64 x.last, .int .u64 x.prom, .slice ao x.es.length c, .int .u64 x.bytes, .bool x.lost]
/-- a state's copy, in the row. -/
def CpAt (w : World) (g p : Nat) (x : St) (ao : Option Addr) (c : Nat) : Prop :=
  w.cell? ⟨g, p + 2, none⟩ = some (.int .u64 x.first) ∧ w.cell? ⟨g, p + 2 + 1, none⟩ = some (.int .u64 x.last) ∧ w.cell? ⟨g, p + 2 + 2, none⟩ = some (.int .u64 x.prom) ∧ w.cell? ⟨g, p + 2 + 3, none⟩ = some (.slice ao x.es.length c) ∧ w.cell? ⟨g, p + 2 + 4, none⟩ = some (.int .u64 x.bytes) ∧ w.cell? ⟨g, p + 2 + 5, none⟩ = some (.bool x.lost)
def C1 (w0 : World) (x y : St) (ax ay : Option Addr) (cx cy : Nat) (s6 s7 : Value) (wx : World) : Prop :=
  ∃ q6 q7, s6 = .pointer (some ⟨q6, 0, none⟩) ∧ s7 = .pointer (some ⟨q7, 0, none⟩) ∧ wx.heap[q6]? = some (.cells (cpC x ax cx) 40) ∧ wx.heap[q7]? = some (.cells (cpC y ay cy) 40) ∧ Below w0.heap.size w0 wx

theorem two_blocks (w : World) (o1 o2 : Obj) : (((w.alloc o1).alloc o2).drew).heap[w.heap.size]? = some o1 ∧ (((w.alloc o1).alloc o2).drew).heap[w.heap.size + 1]? = some o2 ∧ Below w.heap.size w (((w.alloc o1).alloc o2).drew) := by
  refine ⟨?_, ?_, (((Below.refl _ w).alloc (Nat.le_refl _) o1).alloc (by simp) o2).drew⟩
  · show ((w.alloc o1).alloc o2).heap[w.heap.size]? = some o1
    rw [Below.heap_alloc _ _ _ (by simp)]; exact heap_new w o1
  · show ((w.alloc o1).alloc o2).heap[w.heap.size + 1]? = some o2
    have := heap_new (w.alloc o1) o2
    simpa using this
set_option maxHeartbeats 8000000 in
set_option maxRecDepth 100000 in
theorem less_any (A G n cap i j : Nat) (x y : St) (ax ay : Option Addr) (cx cy : Nat) (w : World) (hi : i < n) (hj : j < n) (hA : A < w.heap.size) (hG : G < w.heap.size)
    (hb : w.cell? ⟨A, 0, none⟩ = some (.slice (some ⟨G, 0, none⟩) n cap)) (hx : CpAt w G (i * 9) x ax cx) (hy : CpAt w G (j * 9) y ay cy) (ex : Ep w (.slice ax x.es.length cx) x.es) (ey : Ep w (.slice ay y.es.length cy) y.es) :
    Calls Tryf.prog 13 #[.int .i64 i, .int .i64 j, .pointer (some ⟨A, 0, none⟩)] w (NewB x y w) := by
  obtain ⟨c0, c1, c2, c3, c4, c5⟩ := hx
  obtain ⟨d0, d1, d2, d3, d4, d5⟩ := hy
  have hi0 : (0 : Int) ≤ (i : Int) := by omega
  have hj0 : (0 : Int) ≤ (j : Int) := by omega
  have hi1 : (i : Int) < (n : Int) := by omega
  have hj1 : (j : Int) < (n : Int) := by omega
  obtain ⟨s, hs⟩ : ∃ s, newer x y = s := ⟨_, rfl⟩
  have Hs : Hid _ := hs
  unfold NewB
  rw [hs]
  obtain ⟨tx, htx⟩ : ∃ t, t = tailOf x.es := ⟨_, rfl⟩
  obtain ⟨ty, hty⟩ : ∃ t, t = tailOf y.es := ⟨_, rfl⟩
  have HX : Hid _ := htx
  have HY : Hid _ := hty
  have K1 : ∀ W, Below w.heap.size w W → Calls Tryf.prog 14 #[.slice ax x.es.length cx] W fun e w' => e = .returned (.int .u64 tx) ∧ w' = W := fun W hW => by
    refine (tail_any _ _ _ (ex.below hW)).mono ?_
    rintro e w' ⟨rfl, rfl⟩
    exact ⟨by rw [htx], rfl⟩
  have K2 : ∀ W, Below w.heap.size w W → Calls Tryf.prog 14 #[.slice ay y.es.length cy] W fun e w' => e = .returned (.int .u64 ty) ∧ w' = W := fun W hW => by
    refine (tail_any _ _ _ (ey.below hW)).mono ?_
    rintro e w' ⟨rfl, rfl⟩
    exact ⟨by rw [hty], rfl⟩
  have H1 : Hid _ := K1
  have H2 : Hid _ := K2
  clear ex ey hs htx hty K1 K2
  go_enter Tryf.func13, Tryf.ntmps13
  go_upto_region 1 with fail
  go_cut [6, 7] (fun s6 s7 wx => C1 w x y ax ay cx cy s6 s7 wx)
  case first =>
    go_region
    all_goals (go_wp2_with fail; go_meet)
    · obtain ⟨h1, h2, h3⟩ := two_blocks w (.cells (cpC x ax cx) 40) (.cells (cpC y ay cy) 40)
      exact ⟨_, _, rfl, rfl, h1, h2, h3⟩
    · obtain ⟨h1, h2, h3⟩ := two_blocks w (.cells (cpC y ay cy) 40) (.cells (cpC x ax cx) 40)
      exact ⟨_, _, rfl, rfl, h2, h1, h3⟩
  case rest =>
  rename World => wA
  obtain ⟨q6, q7, rfl, rfl, b6, b7, bel⟩ := hcut
  have e0 : ∀ m, Below w.heap.size w (wA.drewN m) := fun m => bel.trans ⟨rfl, rfl, rfl, Nat.le_refl _, fun _ _ => rfl⟩
  have e1' : ∀ m k, Below w.heap.size w ((wA.drewN m).drewN k) := fun m k => (e0 m).trans ⟨rfl, rfl, rfl, Nat.le_refl _, fun _ _ => rfl⟩
  have HE0 : Hid _ := e0
  have HE1 : Hid _ := e1'
  clear e0 e1' c0 c1 c2 c3 c4 c5 d0 d1 d2 d3 d4 d5 hb
  have p1 : wA.cell? ⟨q6, 1, none⟩ = some (.int .u64 x.last) := (blk_cell b6 rfl).1
  have p3 : wA.cell? ⟨q6, 3, none⟩ = some (.slice ax x.es.length cx) := (blk_cell b6 rfl).1
  have r1 : wA.cell? ⟨q7, 1, none⟩ = some (.int .u64 y.last) := (blk_cell b7 rfl).1
  have r3 : wA.cell? ⟨q7, 3, none⟩ = some (.slice ay y.es.length cy) := (blk_cell b7 rfl).1
  by_cases hne : tx = ty
  · have e1 : (tx != ty) = false := by simp [hne]
    have r1' : decide (y.last < x.last) = s := by rw [← Hs.out]; unfold newer; rw [← HX.out, ← HY.out, if_pos hne]
    clear hne
    go_upto_region 2 with fail
    go_quiet (first | (go_at_call_of 14 (Value.slice ax x.es.length cx); refine Calls.quiet_of_same (H1.out _ (HE0.out _))) | (go_at_call_of 14 (Value.slice ay y.es.length cy); refine Calls.quiet_of_same (H2.out _ (HE0.out _))))
    go_wp2
    go_ret
    exact ⟨rfl, HE0.out _⟩
  · have e1 : (tx != ty) = true := by simp [hne]
    have r1' : decide (ty < tx) = s := by rw [← Hs.out]; unfold newer; rw [← HX.out, ← HY.out, if_neg hne]
    clear hne
    go_upto_region 2 with fail
    go_quiet (first | (go_at_call_of 14 (Value.slice ax x.es.length cx); refine Calls.quiet_of_same (H1.out _ (HE0.out _))) | (go_at_call_of 14 (Value.slice ay y.es.length cy); refine Calls.quiet_of_same (H2.out _ (HE0.out _))))
    have p3' : (wA.drewN nq).cell? ⟨q6, 3, none⟩ = some (.slice ax x.es.length cx) := p3
    have r3' : (wA.drewN nq).cell? ⟨q7, 3, none⟩ = some (.slice ay y.es.length cy) := r3
    have hE2 : ∀ m, Below w.heap.size w ((wA.drewN nq).drewN m) := HE1.out nq
    go_upto_region 3 with fail
    generalize wA.drewN nq = wB at p3' r3' hE2 ⊢
    have HE2 : Hid _ := hE2
    clear hE2
    go_quiet (first | (go_at_call_of 14 (Value.slice ax x.es.length cx); refine Calls.quiet_of_same (H1.out _ (HE2.out _))) | (go_at_call_of 14 (Value.slice ay y.es.length cy); refine Calls.quiet_of_same (H2.out _ (HE2.out _))))
    go_wp2
    go_ret
    exact ⟨rfl, HE2.out _⟩
end Go.Proofs.Qxb6615733aFmt
