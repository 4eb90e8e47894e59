/-
  Seat b6615783a: the walk of FnApplyComposesAndSets.
-/
import Derived.Test.Qxb6615783aWalkD
import Derived.Test.Qxb6615783aWalkE
import Derived.Test.Qxb6615783aWalkG
import Derived.Deep.DeepCutAuto
import Derived.Deep.RegionHeld3
namespace Go.Proofs.Qxb6615783a
open Go.RowKit
attribute [local go_sem ↓] Go.wp_at_zero Go.wp_at_succ

theorem below_blk {B : Nat} {W w1 : World} (h : Below B W w1) (k : Nat) (hk : k < B) (o : Obj) (hw : W.heap[k]? = some o) : w1.heap[k]? = some o := (h.block k hk).trans hw

theorem tog_pick (g h : Int) (x : Bool) (hg : 0 ≤ g ∧ g ≤ 2) : tog (pickI g h) x = tog g (tog h x) := by
  obtain ⟨h0, h2⟩ := hg
  have : g = 0 ∨ g = 1 ∨ g = 2 := by omega
  rcases this with rfl | rfl | rfl <;> simp [tog, pickI]

theorem app_ov (e f : Ent) (l : Lk) (hb : 0 ≤ e.b ∧ e.b ≤ 2) (hi : 0 ≤ e.i ∧ e.i ≤ 2) (hu : 0 ≤ e.u ∧ e.u ≤ 2) : app (ov e f) l = app e (app f l) := by
  cases h : e.ni with
  | true => simp [app, ov, und, h]
  | false => cases h2 : e.fg.s <;> cases h3 : e.bg.s <;> simp [app, ov, und, h, h2, h3, pick, tog_pick, hb, hi, hu]

theorem holds_tog (g : Int) (x : Bool) : holds g (tog g x) = true := by
  unfold holds tog
  by_cases h1 : g = 1
  · simp [h1]
  · by_cases h2 : g = 2
    · simp [h2]
    · simp [h1, h2]

theorem setCell_at {w : World} {q i : Nat} {c : Array Value} {ty : TypeId} (h : w.heap[q]? = some (.cells c ty)) (u : Value) :
    (w.setCell ⟨q, i, none⟩ u).heap[q]? = some (.cells (c.setIfInBounds i u) ty) := by
  simp [World.setCell, Array.getElem?_modify, h]

theorem ks_call {w W w4 : World} (h : Below w.heap.size w W ∧ ∀ b o, b < w.heap.size → W.cell? ⟨b, o, none⟩ = w.cell? ⟨b, o, none⟩) (k : Below W.heap.size W w4) : Below w.heap.size w w4 := h.1.trans (k.mono h.1.size)
theorem ks_alloc {w W : World} (h : Below w.heap.size w W ∧ ∀ b o, b < w.heap.size → W.cell? ⟨b, o, none⟩ = w.cell? ⟨b, o, none⟩) (o : Obj) : Below w.heap.size w (W.alloc o) := h.1.alloc h.1.size o

theorem ks_of {w w' : World} (h : Below w.heap.size w w') : Below w.heap.size w w' ∧ ∀ b o, b < w.heap.size → w'.cell? ⟨b, o, none⟩ = w.cell? ⟨b, o, none⟩ := ⟨h, fun b o hb => h.cell (p := ⟨b, o, none⟩) hb⟩

def R3 (n : Nat) (w : World) (c : Array Value) (s : Value) (wx : World) : Prop := ∃ q, s = .pointer (some ⟨q, 0, none⟩) ∧ n ≤ q ∧ q < wx.heap.size ∧ wx.heap[q]? = some (.cells c 28) ∧ Below n w wx

def zl : Array Value := #[.bool false, .int .u32 0, .int .i64 0, .bool false, .int .u32 0, .int .i64 0, .bool false, .bool false, .bool false]
theorem r3_alloc {w W : World} (B : Below w.heap.size w W) (c : Array Value) : R3 w.heap.size w c (.pointer (some ⟨W.heap.size, 0, none⟩)) (W.alloc (.cells c 28)) :=
  ⟨W.heap.size, rfl, B.size, by simp only [World.size_alloc]; omega, heap_at W _ _ rfl, Below.alloc B B.size _⟩
theorem size_set (w : World) (a : Addr) (u : Value) : (w.setCell a u).heap.size = w.heap.size := by simp [World.setCell]
theorem r3_chain {w W : World} {q : Nat} (h : W.heap[q]? = some (.cells zl 28)) (hq : w.heap.size ≤ q) (hl : q < W.heap.size) (B : Below w.heap.size w W) (v0 v1 v2 v3 v4 v5 v6 v7 v8 : Value) :
    R3 w.heap.size w #[v0, v1, v2, v3, v4, v5, v6, v7, v8] (.pointer (some ⟨q, 0, none⟩)) (((((((((W.setCell ⟨q, 0, none⟩ v0).setCell ⟨q, 1, none⟩ v1).setCell ⟨q, 2, none⟩ v2).setCell ⟨q, 3, none⟩ v3).setCell ⟨q, 4, none⟩ v4).setCell ⟨q, 5, none⟩ v5).setCell ⟨q, 6, none⟩ v6).setCell ⟨q, 7, none⟩ v7).setCell ⟨q, 8, none⟩ v8) := by
  refine ⟨q, rfl, hq, by simp only [size_set]; exact hl, ?_, ?_⟩
  · have h0 := setCell_at (i := 0) h v0
    have h1 := setCell_at (i := 1) h0 v1
    have h2 := setCell_at (i := 2) h1 v2
    have h3 := setCell_at (i := 3) h2 v3
    have h4 := setCell_at (i := 4) h3 v4
    have h5 := setCell_at (i := 5) h4 v5
    have h6 := setCell_at (i := 6) h5 v6
    have h7 := setCell_at (i := 7) h6 v7
    have h8 := setCell_at (i := 8) h7 v8
    refine h8.trans ?_
    simp [zl]
  · exact Below.setCell (Below.setCell (Below.setCell (Below.setCell (Below.setCell (Below.setCell (Below.setCell (Below.setCell (Below.setCell B hq v0) hq v1) hq v2) hq v3) hq v4) hq v5) hq v6) hq v7) hq v8

set_option maxHeartbeats 10000000 in
set_option maxRecDepth 100000 in
theorem lawC (e f : Ent) (b : Lk) (w : World) :
    Calls Try.prog 3 #[.agg (entC e), .agg (entC f), .agg (lkC b)] w fun x w' => x = .returned (.bool true) ∧ Below w.heap.size w w' := by
  have KE : Hid _ := entryOK_any e
  have KF : Hid _ := entryOK_any f
  have KL : Hid _ := lookOK_any b
  unfold entC lkC
  go_enter Try.func3, Try.ntmps3
  go_wp2_with fail
  refine Calls.mono (KE.out _) ?_
  rintro x w1 ⟨bb, rfl, hb1, hP⟩
  have HP : Hid _ := hP
  clear hP
  have B1 : Below w.heap.size w w1 := Below.trans (by go_grown) (hb1.mono (by simp only [World.size_alloc]; omega))
  have z1 : w.heap.size + 1 + 1 < w1.heap.size := by have := hb1.size; simp only [World.size_alloc] at this; omega
  have p0 : w1.heap[w.heap.size]? = some (.cells (entC e) 26) := (hb1.block _ (by simp only [World.size_alloc]; omega)).trans ((heap_old _ _ _ (by simp only [World.size_alloc]; omega)).trans ((heap_old _ _ _ (by simp only [World.size_alloc]; omega)).trans (heap_at _ _ _ rfl)))
  have p1 : w1.heap[w.heap.size + 1]? = some (.cells (entC f) 26) := (hb1.block _ (by simp only [World.size_alloc]; omega)).trans ((heap_old _ _ _ (by simp only [World.size_alloc]; omega)).trans (heap_at _ _ _ (by simp only [World.size_alloc])))
  have p2 : w1.heap[w.heap.size + 1 + 1]? = some (.cells (lkC b) 28) := (hb1.block _ (by simp only [World.size_alloc]; omega)).trans (heap_at _ _ _ (by simp only [World.size_alloc]))
  cases bb with
  | false =>
    clear p0 p1 p2
    go_wp2
    go_ret
    exact ⟨rfl, B1⟩
  | true =>
  have q0 : w1.cell? ⟨w.heap.size + 1, 0, none⟩ = some (.bool f.ni) := (blkCell p1 0).1
  have q1 : w1.cell? ⟨w.heap.size + 1, 1, none⟩ = some (.bool f.fg.s) := (blkCell p1 1).1
  have q2 : w1.cell? ⟨w.heap.size + 1, 2, none⟩ = some (.int .u32 f.fg.r) := (blkCell p1 2).1
  have q3 : w1.cell? ⟨w.heap.size + 1, 3, none⟩ = some (.int .i64 f.fg.a) := (blkCell p1 3).1
  have q4 : w1.cell? ⟨w.heap.size + 1, 4, none⟩ = some (.bool f.bg.s) := (blkCell p1 4).1
  have q5 : w1.cell? ⟨w.heap.size + 1, 5, none⟩ = some (.int .u32 f.bg.r) := (blkCell p1 5).1
  have q6 : w1.cell? ⟨w.heap.size + 1, 6, none⟩ = some (.int .i64 f.bg.a) := (blkCell p1 6).1
  have q7 : w1.cell? ⟨w.heap.size + 1, 7, none⟩ = some (.bool f.bo.s) := (blkCell p1 7).1
  have q8 : w1.cell? ⟨w.heap.size + 1, 8, none⟩ = some (.int .u32 f.bo.r) := (blkCell p1 8).1
  have q9 : w1.cell? ⟨w.heap.size + 1, 9, none⟩ = some (.int .i64 f.bo.a) := (blkCell p1 9).1
  have q10 : w1.cell? ⟨w.heap.size + 1, 10, none⟩ = some (.int .i64 f.b) := (blkCell p1 10).1
  have q11 : w1.cell? ⟨w.heap.size + 1, 11, none⟩ = some (.int .i64 f.i) := (blkCell p1 11).1
  have q12 : w1.cell? ⟨w.heap.size + 1, 12, none⟩ = some (.int .i64 f.u) := (blkCell p1 12).1
  clear hb1
  go_wp2_with fail
  refine Calls.mono (KF.out _) ?_
  rintro x w2 ⟨bb, rfl, hb2, _⟩
  have B2 := B1.trans (hb2.mono B1.size)
  have z2 : w.heap.size + 1 + 1 < w2.heap.size := by have := hb2.size; omega
  have r0 := below_blk hb2 _ (by omega) _ p0
  have r1 := below_blk hb2 _ (by omega) _ p1
  have r2 := below_blk hb2 _ z1 _ p2
  clear p0 p1 p2 q0 q1 q2 q3 q4 q5 q6 q7 q8 q9 q10 q11 q12
  cases bb with
  | false =>
    clear r0 r1 r2
    go_wp2
    go_ret
    exact ⟨rfl, B2⟩
  | true =>
  have q0 : w2.cell? ⟨w.heap.size + 1 + 1, 0, none⟩ = some (.bool b.fg.s) := (blkCell r2 0).1
  have q1 : w2.cell? ⟨w.heap.size + 1 + 1, 1, none⟩ = some (.int .u32 b.fg.r) := (blkCell r2 1).1
  have q2 : w2.cell? ⟨w.heap.size + 1 + 1, 2, none⟩ = some (.int .i64 b.fg.a) := (blkCell r2 2).1
  have q3 : w2.cell? ⟨w.heap.size + 1 + 1, 3, none⟩ = some (.bool b.bg.s) := (blkCell r2 3).1
  have q4 : w2.cell? ⟨w.heap.size + 1 + 1, 4, none⟩ = some (.int .u32 b.bg.r) := (blkCell r2 4).1
  have q5 : w2.cell? ⟨w.heap.size + 1 + 1, 5, none⟩ = some (.int .i64 b.bg.a) := (blkCell r2 5).1
  have q6 : w2.cell? ⟨w.heap.size + 1 + 1, 6, none⟩ = some (.bool b.b) := (blkCell r2 6).1
  have q7 : w2.cell? ⟨w.heap.size + 1 + 1, 7, none⟩ = some (.bool b.i) := (blkCell r2 7).1
  have q8 : w2.cell? ⟨w.heap.size + 1 + 1, 8, none⟩ = some (.bool b.u) := (blkCell r2 8).1
  clear hb2
  go_wp2_with fail
  refine Calls.mono (KL.out _) ?_
  rintro x w3 ⟨bb, rfl, hb3, _⟩
  have B3 := B2.trans (hb3.mono B2.size)
  have z3 : w.heap.size + 1 + 1 < w3.heap.size := by have := hb3.size; omega
  have s0 := below_blk hb3 _ (by omega) _ r0
  have s1 := below_blk hb3 _ (by omega) _ r1
  have s2 := below_blk hb3 _ z2 _ r2
  clear r0 r1 r2 hb3 B1 B2 z1 z2 q0 q1 q2 q3 q4 q5 q6 q7 q8
  cases bb with
  | false =>
    clear s0 s1 s2
    go_wp2
    go_ret
    exact ⟨rfl, B3⟩
  | true =>
  have hP : (0 ≤ e.b ∧ e.b ≤ 2) ∧ (0 ≤ e.i ∧ e.i ≤ 2) ∧ (0 ≤ e.u ∧ e.u ≤ 2) := HP.out trivial
  have HQ : Hid _ := hP
  clear hP
  have S0 : Hid _ := s0
  have S1 : Hid _ := s1
  have S2 : Hid _ := s2
  have KA : Hid _ := applyEntry_any f b
  have KB : Hid _ := applyEntry_any e (app f b)
  have p0 : w3.cell? ⟨w.heap.size, 0, none⟩ = some (.bool e.ni) := (blkCell s0 0).1
  have p1 : w3.cell? ⟨w.heap.size, 1, none⟩ = some (.bool e.fg.s) := (blkCell s0 1).1
  have p2 : w3.cell? ⟨w.heap.size, 2, none⟩ = some (.int .u32 e.fg.r) := (blkCell s0 2).1
  have p3 : w3.cell? ⟨w.heap.size, 3, none⟩ = some (.int .i64 e.fg.a) := (blkCell s0 3).1
  have p4 : w3.cell? ⟨w.heap.size, 4, none⟩ = some (.bool e.bg.s) := (blkCell s0 4).1
  have p5 : w3.cell? ⟨w.heap.size, 5, none⟩ = some (.int .u32 e.bg.r) := (blkCell s0 5).1
  have p6 : w3.cell? ⟨w.heap.size, 6, none⟩ = some (.int .i64 e.bg.a) := (blkCell s0 6).1
  have p7 : w3.cell? ⟨w.heap.size, 7, none⟩ = some (.bool e.bo.s) := (blkCell s0 7).1
  have p8 : w3.cell? ⟨w.heap.size, 8, none⟩ = some (.int .u32 e.bo.r) := (blkCell s0 8).1
  have p9 : w3.cell? ⟨w.heap.size, 9, none⟩ = some (.int .i64 e.bo.a) := (blkCell s0 9).1
  have p10 : w3.cell? ⟨w.heap.size, 10, none⟩ = some (.int .i64 e.b) := (blkCell s0 10).1
  have p11 : w3.cell? ⟨w.heap.size, 11, none⟩ = some (.int .i64 e.i) := (blkCell s0 11).1
  have p12 : w3.cell? ⟨w.heap.size, 12, none⟩ = some (.int .i64 e.u) := (blkCell s0 12).1
  have q0 : w3.cell? ⟨w.heap.size + 1, 0, none⟩ = some (.bool f.ni) := (blkCell s1 0).1
  have q1 : w3.cell? ⟨w.heap.size + 1, 1, none⟩ = some (.bool f.fg.s) := (blkCell s1 1).1
  have q2 : w3.cell? ⟨w.heap.size + 1, 2, none⟩ = some (.int .u32 f.fg.r) := (blkCell s1 2).1
  have q3 : w3.cell? ⟨w.heap.size + 1, 3, none⟩ = some (.int .i64 f.fg.a) := (blkCell s1 3).1
  have q4 : w3.cell? ⟨w.heap.size + 1, 4, none⟩ = some (.bool f.bg.s) := (blkCell s1 4).1
  have q5 : w3.cell? ⟨w.heap.size + 1, 5, none⟩ = some (.int .u32 f.bg.r) := (blkCell s1 5).1
  have q6 : w3.cell? ⟨w.heap.size + 1, 6, none⟩ = some (.int .i64 f.bg.a) := (blkCell s1 6).1
  have q7 : w3.cell? ⟨w.heap.size + 1, 7, none⟩ = some (.bool f.bo.s) := (blkCell s1 7).1
  have q8 : w3.cell? ⟨w.heap.size + 1, 8, none⟩ = some (.int .u32 f.bo.r) := (blkCell s1 8).1
  have q9 : w3.cell? ⟨w.heap.size + 1, 9, none⟩ = some (.int .i64 f.bo.a) := (blkCell s1 9).1
  have q10 : w3.cell? ⟨w.heap.size + 1, 10, none⟩ = some (.int .i64 f.b) := (blkCell s1 10).1
  have q11 : w3.cell? ⟨w.heap.size + 1, 11, none⟩ = some (.int .i64 f.i) := (blkCell s1 11).1
  have q12 : w3.cell? ⟨w.heap.size + 1, 12, none⟩ = some (.int .i64 f.u) := (blkCell s1 12).1
  have l0 : w3.cell? ⟨w.heap.size + 1 + 1, 0, none⟩ = some (.bool b.fg.s) := (blkCell s2 0).1
  have l1 : w3.cell? ⟨w.heap.size + 1 + 1, 1, none⟩ = some (.int .u32 b.fg.r) := (blkCell s2 1).1
  have l2 : w3.cell? ⟨w.heap.size + 1 + 1, 2, none⟩ = some (.int .i64 b.fg.a) := (blkCell s2 2).1
  have l3 : w3.cell? ⟨w.heap.size + 1 + 1, 3, none⟩ = some (.bool b.bg.s) := (blkCell s2 3).1
  have l4 : w3.cell? ⟨w.heap.size + 1 + 1, 4, none⟩ = some (.int .u32 b.bg.r) := (blkCell s2 4).1
  have l5 : w3.cell? ⟨w.heap.size + 1 + 1, 5, none⟩ = some (.int .i64 b.bg.a) := (blkCell s2 5).1
  have l6 : w3.cell? ⟨w.heap.size + 1 + 1, 6, none⟩ = some (.bool b.b) := (blkCell s2 6).1
  have l7 : w3.cell? ⟨w.heap.size + 1 + 1, 7, none⟩ = some (.bool b.i) := (blkCell s2 7).1
  have l8 : w3.cell? ⟨w.heap.size + 1 + 1, 8, none⟩ = some (.bool b.u) := (blkCell s2 8).1
  have y0 : w.heap.size < w3.heap.size := by omega
  have y1 : w.heap.size + 1 < w3.heap.size := by omega
  have y2 : w.heap.size + 1 + 1 < w3.heap.size := by omega
  have y3 : w.heap.size < w3.heap.size + 1 := by omega
  have y4 : w.heap.size + 1 < w3.heap.size + 1 := by omega
  have y5 : w.heap.size + 1 + 1 < w3.heap.size + 1 := by omega
  clear s0 s1 s2 KE KF KL HP
  go_upto_region 3 with fail
  go_cut [7] (fun s7 wx => R3 w3.heap.size w3 (lkC (app e (app f b))) s7 wx)
  case first =>
    go_region_held3 (fun w' => Below w3.heap.size w3 w' ∧ ∀ b o, b < w3.heap.size → w'.cell? ⟨b, o, none⟩ = w3.cell? ⟨b, o, none⟩) ((refine ks_of ?_; first | with_reducible assumption | with_reducible exact (Below.refl _ _).drew | with_reducible exact (Below.alloc (Below.refl _ _) (Nat.le_refl _) _).drew | with_reducible exact ks_alloc (by assumption) _ | with_reducible exact Below.alloc (by assumption) (by assumption) _ | ((repeat (with_reducible refine Below.setCell ?_ (by first | with_reducible assumption | with_reducible exact Nat.le_refl _) _)); (first | with_reducible assumption | with_reducible exact And.left (by assumption)))))
      (first | (go_at_call 7; have hq := hb4; clear hq; refine Calls.mono (KB.out _) ?_; rintro x w5 ⟨rfl, hb5⟩; have B5 := ks_call (w := w3) (by assumption) hb5; have z5 := B5.size; obtain ⟨hc5, hf5⟩ := bcell hb5; have k5 := hb5.size; (try simp only [World.size_alloc] at k5); (try have u5 : w4.heap.size < w5.heap.size := (by omega)); (try have v5 : w3.heap.size < w5.heap.size := (by omega)); simp only [lkC]) | (go_at_call 7; refine Calls.mono (KA.out _) ?_; rintro x w4 ⟨rfl, hb4⟩; have B4 := ks_call (w := w3) (by assumption) hb4; have z4 := B4.size; obtain ⟨hc4, hf4⟩ := bcell hb4; have k4 := hb4.size; (try simp only [World.size_alloc, World.size_drew] at k4); (try have u4 : w3.heap.size < w4.heap.size := (by omega)); simp only [lkC]))
    · go_wp2_with fail
      go_meet
      simp only [lkC]
      exact r3_alloc B5 _
    · go_wp2_with fail
      go_meet
      simp only [lkC]
      exact r3_chain (q := w4.heap.size) ((hb5.block _ (by simp only [World.size_alloc]; omega)).trans (heap_at w4 _ _ rfl)) z4 u5 B5 _ _ _ _ _ _ _ _ _
    · go_wp2_with fail
      go_meet
      simp only [lkC]
      exact r3_chain (q := w3.heap.size) ((hb5.block _ u4).trans ((hb4.block _ (by simp only [World.size_alloc, World.size_drew]; omega)).trans (heap_at w3 _ _ rfl))) (Nat.le_refl _) v5 B5 _ _ _ _ _ _ _ _ _
  case rest =>
  rename World => wA
  obtain ⟨B7, rfl, hq7, hl7, h7, hcb⟩ := hcut
  have zA := hcb.size
  have BA : Below w.heap.size w wA := B3.trans (hcb.mono B3.size)
  have t0 := below_blk hcb _ (by omega) _ S0.out
  have t1 := below_blk hcb _ (by omega) _ S1.out
  have t2 := below_blk hcb _ (by omega) _ S2.out
  clear hcb S0 S1 S2 B3 KA KB y0 y1 y2 y3 y4 y5 p0 p1 p2 p3 p4 p5 p6 p7 p8 p9 p10 p11 p12 q0 q1 q2 q3 q4 q5 q6 q7 q8 q9 q10 q11 q12 l0 l1 l2 l3 l4 l5 l6 l7 l8
  have p0 : wA.cell? ⟨w.heap.size, 0, none⟩ = some (.bool e.ni) := (blkCell t0 0).1
  have p1 : wA.cell? ⟨w.heap.size, 1, none⟩ = some (.bool e.fg.s) := (blkCell t0 1).1
  have p2 : wA.cell? ⟨w.heap.size, 2, none⟩ = some (.int .u32 e.fg.r) := (blkCell t0 2).1
  have p3 : wA.cell? ⟨w.heap.size, 3, none⟩ = some (.int .i64 e.fg.a) := (blkCell t0 3).1
  have p4 : wA.cell? ⟨w.heap.size, 4, none⟩ = some (.bool e.bg.s) := (blkCell t0 4).1
  have p5 : wA.cell? ⟨w.heap.size, 5, none⟩ = some (.int .u32 e.bg.r) := (blkCell t0 5).1
  have p6 : wA.cell? ⟨w.heap.size, 6, none⟩ = some (.int .i64 e.bg.a) := (blkCell t0 6).1
  have p7 : wA.cell? ⟨w.heap.size, 7, none⟩ = some (.bool e.bo.s) := (blkCell t0 7).1
  have p8 : wA.cell? ⟨w.heap.size, 8, none⟩ = some (.int .u32 e.bo.r) := (blkCell t0 8).1
  have p9 : wA.cell? ⟨w.heap.size, 9, none⟩ = some (.int .i64 e.bo.a) := (blkCell t0 9).1
  have p10 : wA.cell? ⟨w.heap.size, 10, none⟩ = some (.int .i64 e.b) := (blkCell t0 10).1
  have p11 : wA.cell? ⟨w.heap.size, 11, none⟩ = some (.int .i64 e.i) := (blkCell t0 11).1
  have p12 : wA.cell? ⟨w.heap.size, 12, none⟩ = some (.int .i64 e.u) := (blkCell t0 12).1
  have q0 : wA.cell? ⟨w.heap.size + 1, 0, none⟩ = some (.bool f.ni) := (blkCell t1 0).1
  have q1 : wA.cell? ⟨w.heap.size + 1, 1, none⟩ = some (.bool f.fg.s) := (blkCell t1 1).1
  have q2 : wA.cell? ⟨w.heap.size + 1, 2, none⟩ = some (.int .u32 f.fg.r) := (blkCell t1 2).1
  have q3 : wA.cell? ⟨w.heap.size + 1, 3, none⟩ = some (.int .i64 f.fg.a) := (blkCell t1 3).1
  have q4 : wA.cell? ⟨w.heap.size + 1, 4, none⟩ = some (.bool f.bg.s) := (blkCell t1 4).1
  have q5 : wA.cell? ⟨w.heap.size + 1, 5, none⟩ = some (.int .u32 f.bg.r) := (blkCell t1 5).1
  have q6 : wA.cell? ⟨w.heap.size + 1, 6, none⟩ = some (.int .i64 f.bg.a) := (blkCell t1 6).1
  have q7 : wA.cell? ⟨w.heap.size + 1, 7, none⟩ = some (.bool f.bo.s) := (blkCell t1 7).1
  have q8 : wA.cell? ⟨w.heap.size + 1, 8, none⟩ = some (.int .u32 f.bo.r) := (blkCell t1 8).1
  have q9 : wA.cell? ⟨w.heap.size + 1, 9, none⟩ = some (.int .i64 f.bo.a) := (blkCell t1 9).1
  have q10 : wA.cell? ⟨w.heap.size + 1, 10, none⟩ = some (.int .i64 f.b) := (blkCell t1 10).1
  have q11 : wA.cell? ⟨w.heap.size + 1, 11, none⟩ = some (.int .i64 f.i) := (blkCell t1 11).1
  have q12 : wA.cell? ⟨w.heap.size + 1, 12, none⟩ = some (.int .i64 f.u) := (blkCell t1 12).1
  have l0 : wA.cell? ⟨w.heap.size + 1 + 1, 0, none⟩ = some (.bool b.fg.s) := (blkCell t2 0).1
  have l1 : wA.cell? ⟨w.heap.size + 1 + 1, 1, none⟩ = some (.int .u32 b.fg.r) := (blkCell t2 1).1
  have l2 : wA.cell? ⟨w.heap.size + 1 + 1, 2, none⟩ = some (.int .i64 b.fg.a) := (blkCell t2 2).1
  have l3 : wA.cell? ⟨w.heap.size + 1 + 1, 3, none⟩ = some (.bool b.bg.s) := (blkCell t2 3).1
  have l4 : wA.cell? ⟨w.heap.size + 1 + 1, 4, none⟩ = some (.int .u32 b.bg.r) := (blkCell t2 4).1
  have l5 : wA.cell? ⟨w.heap.size + 1 + 1, 5, none⟩ = some (.int .i64 b.bg.a) := (blkCell t2 5).1
  have l6 : wA.cell? ⟨w.heap.size + 1 + 1, 6, none⟩ = some (.bool b.b) := (blkCell t2 6).1
  have l7 : wA.cell? ⟨w.heap.size + 1 + 1, 7, none⟩ = some (.bool b.i) := (blkCell t2 7).1
  have l8 : wA.cell? ⟨w.heap.size + 1 + 1, 8, none⟩ = some (.bool b.u) := (blkCell t2 8).1
  have y0 : w.heap.size < wA.heap.size := by omega
  have y1 : w.heap.size + 1 < wA.heap.size := by omega
  have y2 : w.heap.size + 1 + 1 < wA.heap.size := by omega
  have y3 : w.heap.size < wA.heap.size + 1 := by omega
  have y4 : w.heap.size + 1 < wA.heap.size + 1 := by omega
  have y5 : w.heap.size + 1 + 1 < wA.heap.size + 1 := by omega
  have T0 : Hid _ := t0
  have T2 : Hid _ := t2
  have T7 : Hid _ := h7
  clear t0 t1 t2 h7
  have hP := HQ.out
  have KO : Hid _ := over_any e f
  have kv : ∀ w, Calls Try.prog 7 #[.agg (entC (ov e f)), .agg (lkC b)] w fun x w' => x = .returned (.agg (lkC (app e (app f b)))) ∧ Below w.heap.size w w' := by
    intro w
    have h := applyEntry_any (ov e f) b w
    rw [app_ov e f b hP.1 hP.2.1 hP.2.2] at h
    exact h
  have KV : Hid _ := kv
  clear kv hP HQ
  go_upto_region 4 with fail
  go_cut [8] (fun s8 wx => R3 wA.heap.size wA (lkC (app e (app f b))) s8 wx)
  case first =>
    go_region_held3 (fun w' => Below wA.heap.size wA w' ∧ ∀ b o, b < wA.heap.size → w'.cell? ⟨b, o, none⟩ = wA.cell? ⟨b, o, none⟩) ((refine ks_of ?_; first | with_reducible assumption | with_reducible exact (Below.refl _ _).drew | with_reducible exact (Below.alloc (Below.refl _ _) (Nat.le_refl _) _).drew | with_reducible exact ks_alloc (by assumption) _ | with_reducible exact Below.alloc (by assumption) (by assumption) _ | ((repeat (with_reducible refine Below.setCell ?_ (by first | with_reducible assumption | with_reducible exact Nat.le_refl _) _)); (first | with_reducible assumption | with_reducible exact And.left (by assumption)))))
      (first | (go_at_call 7; have hq := hb4; clear hq; refine Calls.mono (KV.out _) ?_; rintro x w5 ⟨rfl, hb5⟩; have B5 := ks_call (w := wA) (by assumption) hb5; have z5 := B5.size; obtain ⟨hc5, hf5⟩ := bcell hb5; have k5 := hb5.size; (try simp only [World.size_alloc] at k5); (try have u5 : w4.heap.size < w5.heap.size := (by omega)); (try have v5 : wA.heap.size < w5.heap.size := (by omega)); simp only [lkC]) | (go_at_call 8; refine Calls.mono (KO.out _) ?_; rintro x w4 ⟨rfl, hb4⟩; have B4 := ks_call (w := wA) (by assumption) hb4; have z4 := B4.size; obtain ⟨hc4, hf4⟩ := bcell hb4; have k4 := hb4.size; (try simp only [World.size_drew, World.size_alloc] at k4); (try have u4 : wA.heap.size < w4.heap.size := (by omega)); simp only [entC]))
    · go_wp2_with fail
      go_meet
      simp only [lkC]
      exact r3_alloc B5 _
    · go_wp2_with fail
      go_meet
      simp only [lkC]
      exact r3_chain (q := w4.heap.size) ((hb5.block _ (by simp only [World.size_alloc]; omega)).trans (heap_at w4 _ _ rfl)) z4 u5 B5 _ _ _ _ _ _ _ _ _
    · go_wp2_with fail
      go_meet
      simp only [lkC]
      exact r3_chain (q := wA.heap.size) ((hb5.block _ u4).trans ((hb4.block _ (by simp only [World.size_alloc, World.size_drew]; omega)).trans (heap_at wA _ _ rfl))) (Nat.le_refl _) v5 B5 _ _ _ _ _ _ _ _ _
  case rest =>
  rename World => wB
  obtain ⟨B8, rfl, hq8, hl8, h8, hcb⟩ := hcut
  have zB := hcb.size
  have BB : Below w.heap.size w wB := BA.trans (hcb.mono BA.size)
  have t0 := below_blk hcb _ (by omega) _ T0.out
  have t2 := below_blk hcb _ (by omega) _ T2.out
  have t7 := below_blk hcb _ hl7 _ T7.out
  clear hcb T0 T2 T7 BA KO KV y0 y1 y2 y3 y4 y5 p0 p1 p2 p3 p4 p5 p6 p7 p8 p9 p10 p11 p12 q0 q1 q2 q3 q4 q5 q6 q7 q8 q9 q10 q11 q12 l0 l1 l2 l3 l4 l5 l6 l7 l8
  have p0 : wB.cell? ⟨w.heap.size, 0, none⟩ = some (.bool e.ni) := (blkCell t0 0).1
  have p1 : wB.cell? ⟨w.heap.size, 1, none⟩ = some (.bool e.fg.s) := (blkCell t0 1).1
  have p2 : wB.cell? ⟨w.heap.size, 2, none⟩ = some (.int .u32 e.fg.r) := (blkCell t0 2).1
  have p3 : wB.cell? ⟨w.heap.size, 3, none⟩ = some (.int .i64 e.fg.a) := (blkCell t0 3).1
  have p4 : wB.cell? ⟨w.heap.size, 4, none⟩ = some (.bool e.bg.s) := (blkCell t0 4).1
  have p5 : wB.cell? ⟨w.heap.size, 5, none⟩ = some (.int .u32 e.bg.r) := (blkCell t0 5).1
  have p6 : wB.cell? ⟨w.heap.size, 6, none⟩ = some (.int .i64 e.bg.a) := (blkCell t0 6).1
  have p7 : wB.cell? ⟨w.heap.size, 7, none⟩ = some (.bool e.bo.s) := (blkCell t0 7).1
  have p8 : wB.cell? ⟨w.heap.size, 8, none⟩ = some (.int .u32 e.bo.r) := (blkCell t0 8).1
  have p9 : wB.cell? ⟨w.heap.size, 9, none⟩ = some (.int .i64 e.bo.a) := (blkCell t0 9).1
  have p10 : wB.cell? ⟨w.heap.size, 10, none⟩ = some (.int .i64 e.b) := (blkCell t0 10).1
  have p11 : wB.cell? ⟨w.heap.size, 11, none⟩ = some (.int .i64 e.i) := (blkCell t0 11).1
  have p12 : wB.cell? ⟨w.heap.size, 12, none⟩ = some (.int .i64 e.u) := (blkCell t0 12).1
  have l0 : wB.cell? ⟨w.heap.size + 1 + 1, 0, none⟩ = some (.bool b.fg.s) := (blkCell t2 0).1
  have l1 : wB.cell? ⟨w.heap.size + 1 + 1, 1, none⟩ = some (.int .u32 b.fg.r) := (blkCell t2 1).1
  have l2 : wB.cell? ⟨w.heap.size + 1 + 1, 2, none⟩ = some (.int .i64 b.fg.a) := (blkCell t2 2).1
  have l3 : wB.cell? ⟨w.heap.size + 1 + 1, 3, none⟩ = some (.bool b.bg.s) := (blkCell t2 3).1
  have l4 : wB.cell? ⟨w.heap.size + 1 + 1, 4, none⟩ = some (.int .u32 b.bg.r) := (blkCell t2 4).1
  have l5 : wB.cell? ⟨w.heap.size + 1 + 1, 5, none⟩ = some (.int .i64 b.bg.a) := (blkCell t2 5).1
  have l6 : wB.cell? ⟨w.heap.size + 1 + 1, 6, none⟩ = some (.bool b.b) := (blkCell t2 6).1
  have l7 : wB.cell? ⟨w.heap.size + 1 + 1, 7, none⟩ = some (.bool b.i) := (blkCell t2 7).1
  have l8 : wB.cell? ⟨w.heap.size + 1 + 1, 8, none⟩ = some (.bool b.u) := (blkCell t2 8).1
  have m0 : wB.cell? ⟨B7, 0, none⟩ = some (.bool (app e (app f b)).fg.s) := (blkCell t7 0).1
  have m1 : wB.cell? ⟨B7, 1, none⟩ = some (.int .u32 (app e (app f b)).fg.r) := (blkCell t7 1).1
  have m2 : wB.cell? ⟨B7, 2, none⟩ = some (.int .i64 (app e (app f b)).fg.a) := (blkCell t7 2).1
  have m3 : wB.cell? ⟨B7, 3, none⟩ = some (.bool (app e (app f b)).bg.s) := (blkCell t7 3).1
  have m4 : wB.cell? ⟨B7, 4, none⟩ = some (.int .u32 (app e (app f b)).bg.r) := (blkCell t7 4).1
  have m5 : wB.cell? ⟨B7, 5, none⟩ = some (.int .i64 (app e (app f b)).bg.a) := (blkCell t7 5).1
  have m6 : wB.cell? ⟨B7, 6, none⟩ = some (.bool (app e (app f b)).b) := (blkCell t7 6).1
  have m7 : wB.cell? ⟨B7, 7, none⟩ = some (.bool (app e (app f b)).i) := (blkCell t7 7).1
  have m8 : wB.cell? ⟨B7, 8, none⟩ = some (.bool (app e (app f b)).u) := (blkCell t7 8).1
  have n0 : wB.cell? ⟨B8, 0, none⟩ = some (.bool (app e (app f b)).fg.s) := (blkCell h8 0).1
  have n1 : wB.cell? ⟨B8, 1, none⟩ = some (.int .u32 (app e (app f b)).fg.r) := (blkCell h8 1).1
  have n2 : wB.cell? ⟨B8, 2, none⟩ = some (.int .i64 (app e (app f b)).fg.a) := (blkCell h8 2).1
  have n3 : wB.cell? ⟨B8, 3, none⟩ = some (.bool (app e (app f b)).bg.s) := (blkCell h8 3).1
  have n4 : wB.cell? ⟨B8, 4, none⟩ = some (.int .u32 (app e (app f b)).bg.r) := (blkCell h8 4).1
  have n5 : wB.cell? ⟨B8, 5, none⟩ = some (.int .i64 (app e (app f b)).bg.a) := (blkCell h8 5).1
  have n6 : wB.cell? ⟨B8, 6, none⟩ = some (.bool (app e (app f b)).b) := (blkCell h8 6).1
  have n7 : wB.cell? ⟨B8, 7, none⟩ = some (.bool (app e (app f b)).i) := (blkCell h8 7).1
  have n8 : wB.cell? ⟨B8, 8, none⟩ = some (.bool (app e (app f b)).u) := (blkCell h8 8).1
  have T0 : Hid _ := t0
  clear t0 t2 t7 h8
  have KR : Hid _ := applyEntry_any e b
  go_wp2_with fail
  refine Calls.mono (KR.out _) ?_
  rintro x w5 ⟨rfl, hb5⟩
  have z5 := hb5.size
  have B5 := BB.trans (hb5.mono BB.size)
  have u0 := below_blk hb5 _ (by omega) _ T0.out
  clear hb5 T0 BB KR p0 p1 p2 p3 p4 p5 p6 p7 p8 p9 p10 p11 p12 l0 l1 l2 l3 l4 l5 l6 l7 l8 m0 m1 m2 m3 m4 m5 m6 m7 m8 n0 n1 n2 n3 n4 n5 n6 n7 n8
  have y0 : w.heap.size < w5.heap.size := by omega
  clear z3 zA zB z5 hq7 hl7 hq8 hl8
  have p0 : w5.cell? ⟨w.heap.size, 0, none⟩ = some (.bool e.ni) := (blkCell u0 0).1
  have p1 : w5.cell? ⟨w.heap.size, 1, none⟩ = some (.bool e.fg.s) := (blkCell u0 1).1
  have p2 : w5.cell? ⟨w.heap.size, 2, none⟩ = some (.int .u32 e.fg.r) := (blkCell u0 2).1
  have p3 : w5.cell? ⟨w.heap.size, 3, none⟩ = some (.int .i64 e.fg.a) := (blkCell u0 3).1
  have p4 : w5.cell? ⟨w.heap.size, 4, none⟩ = some (.bool e.bg.s) := (blkCell u0 4).1
  have p5 : w5.cell? ⟨w.heap.size, 5, none⟩ = some (.int .u32 e.bg.r) := (blkCell u0 5).1
  have p6 : w5.cell? ⟨w.heap.size, 6, none⟩ = some (.int .i64 e.bg.a) := (blkCell u0 6).1
  have p7 : w5.cell? ⟨w.heap.size, 7, none⟩ = some (.bool e.bo.s) := (blkCell u0 7).1
  have p8 : w5.cell? ⟨w.heap.size, 8, none⟩ = some (.int .u32 e.bo.r) := (blkCell u0 8).1
  have p9 : w5.cell? ⟨w.heap.size, 9, none⟩ = some (.int .i64 e.bo.a) := (blkCell u0 9).1
  have p10 : w5.cell? ⟨w.heap.size, 10, none⟩ = some (.int .i64 e.b) := (blkCell u0 10).1
  have p11 : w5.cell? ⟨w.heap.size, 11, none⟩ = some (.int .i64 e.i) := (blkCell u0 11).1
  have p12 : w5.cell? ⟨w.heap.size, 12, none⟩ = some (.int .i64 e.u) := (blkCell u0 12).1
  clear u0
  have k1 : ∀ w, Calls Try.prog 9 #[.int .i64 e.b, .bool (app e b).b] w fun x w' => x = .returned (.bool true) ∧ w = w' := by
    intro w
    have h := toggleHolds_any e.b (app e b).b w
    rw [show (app e b).b = tog e.b (und e b).b from rfl, holds_tog] at h
    exact h
  have k2 : ∀ w, Calls Try.prog 9 #[.int .i64 e.i, .bool (app e b).i] w fun x w' => x = .returned (.bool true) ∧ w = w' := by
    intro w
    have h := toggleHolds_any e.i (app e b).i w
    rw [show (app e b).i = tog e.i (und e b).i from rfl, holds_tog] at h
    exact h
  have k3 : ∀ w, Calls Try.prog 9 #[.int .i64 e.u, .bool (app e b).u] w fun x w' => x = .returned (.bool true) ∧ w = w' := by
    intro w
    have h := toggleHolds_any e.u (app e b).u w
    rw [show (app e b).u = tog e.u (und e b).u from rfl, holds_tog] at h
    exact h
  have K1 : Hid _ := k1
  have K2 : Hid _ := k2
  have K3 : Hid _ := k3
  clear k1 k2 k3
  have f1 : e.fg.s = true → (app e b).fg = e.fg := fun h => by unfold app; simp [h]
  have f2 : e.bg.s = true → (app e b).bg = e.bg := fun h => by unfold app; simp [h]
  simp only [lkC]
  have F1 : Hid _ := f1
  have F2 : Hid _ := f2
  clear f1 f2
  cases hs1 : e.fg.s <;> cases hs2 : e.bg.s
  all_goals (try rw [F1.out hs1])
  all_goals (try rw [F2.out hs2])
  all_goals (clear F1 F2)
  all_goals (
    go_wp2_with fail
    refine Calls.mono (K1.out _) ?_
    rintro x w6 ⟨rfl, rfl⟩
    go_wp2_with fail
    refine Calls.mono (K2.out _) ?_
    rintro x w6 ⟨rfl, rfl⟩
    go_wp2_with fail
    refine Calls.mono (K3.out _) ?_
    rintro x w6 ⟨rfl, rfl⟩
    go_wp2
    go_ret
    exact ⟨rfl, Below.alloc B5 B5.size _⟩)
end Go.Proofs.Qxb6615783a
