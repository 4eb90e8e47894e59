/-
  Seat b6615783a: the walk of FnApplyEmptyForgetsAndSettles.
-/
import Derived.Test.Qxb6615783aWalkD
import Derived.Test.Qxb6615783aWalkE
import Derived.Deep.DeepCutAuto
namespace Go.Proofs.Qxb6615783a
open Go.RowKit
attribute [local go_sem ↓] Go.wp_at_zero Go.wp_at_succ

def zent : Ent := ⟨false, zcol, zcol, zcol, 0, 0, 0⟩
def fent : Ent := ⟨true, zcol, zcol, zcol, 0, 0, 0⟩
/-- e, made not to inherit. -/
def en (e : Ent) : Ent := ⟨true, e.fg, e.bg, e.bo, e.b, e.i, e.u⟩
theorem app_zent (l : Lk) : app zent l = l := rfl
theorem app_fent (l : Lk) : app fent l = zlk := rfl
theorem tog_tog (g : Int) (x : Bool) : tog g (tog g x) = tog g x := by
  unfold tog
  by_cases h1 : g = 1
  · rw [if_pos h1, if_pos h1]
  · by_cases h2 : g = 2
    · simp [h2]
    · simp [h1, h2]
theorem app_app (e : Ent) (l : Lk) : app e (app e l) = app e l := by
  unfold app und
  cases e.ni <;> cases e.fg.s <;> cases e.bg.s <;> simp [tog_tog]
theorem app_ni (e : Ent) (l m : Lk) (h : e.ni = true) : app e l = app e m := by
  unfold app und
  rw [if_pos h, if_pos h]
theorem below_block {B : Nat} {W w1 : World} (h : Below B W w1) (k : Nat) (hk : k < B) (o : Obj) (hw : W.heap[k]? = some o) : w1.heap[k]? = some o := (h.block k hk).trans hw

set_option maxHeartbeats 10000000 in
set_option maxRecDepth 100000 in
theorem lawS (e : Ent) (b1 b2 : Lk) (w : World) :
    Calls Try.prog 4 #[.agg (entC e), .agg (lkC b1), .agg (lkC b2)] w fun x w' => x = .returned (.bool true) ∧ Below w.heap.size w w' := by
  have ka : ∀ w, Calls Try.prog 7 #[.agg (entC zent), .agg (lkC b1)] w fun x w' => x = .returned (.agg (lkC b1)) ∧ Below w.heap.size w w' := fun w => applyEntry_any zent b1 w
  have kf : ∀ w, Calls Try.prog 7 #[.agg (entC fent), .agg (lkC b1)] w fun x w' => x = .returned (.agg (lkC zlk)) ∧ Below w.heap.size w w' := fun w => applyEntry_any fent b1 w
  have KF : Hid _ := kf
  have KR : Hid _ := applyEntry_any e b1
  have kr2 : ∀ w, Calls Try.prog 7 #[.agg (entC e), .agg (lkC (app e b1))] w fun x w' => x = .returned (.agg (lkC (app e b1))) ∧ Below w.heap.size w w' := by
    intro w
    have h := applyEntry_any e (app e b1) w
    rw [app_app] at h
    exact h
  have KR2 : Hid _ := kr2
  have kn : ∀ (s1 : Bool) (r1 a1 : Int) (s2 : Bool) (r2 a2 : Int) (x1 x2 x3 : Bool) (w : World), Calls Try.prog 7 #[.agg (entC (en e)), .agg #[.bool s1, .int .u32 r1, .int .i64 a1, .bool s2, .int .u32 r2, .int .i64 a2, .bool x1, .bool x2, .bool x3]] w
      fun x w' => x = .returned (.agg (lkC (app (en e) b1))) ∧ Below w.heap.size w w' := by
    intro s1 r1 a1 s2 r2 a2 x1 x2 x3 w
    have h := applyEntry_any (en e) ⟨⟨s1, r1, a1⟩, ⟨s2, r2, a2⟩, x1, x2, x3⟩ w
    rw [app_ni (en e) _ b1 rfl] at h
    exact h
  have KN : Hid _ := kn
  clear kn
  clear kr2
  clear kf
  have KE : Hid _ := entryOK_any e
  have K1 : Hid _ := lookOK_any b1
  have K2 : Hid _ := lookOK_any b2
  have KA : Hid _ := ka
  clear ka
  unfold entC lkC
  go_enter Try.func4, Try.ntmps4
  go_wp2_with fail
  refine Calls.mono (KE.out _) ?_
  rintro x w1 ⟨b, rfl, hb1, _⟩
  have B1 : Below w.heap.size w w1 := Below.trans (by go_grown) (hb1.mono (by simp only [World.size_alloc]; omega))
  have z1 : w.heap.size + 1 + 1 < w1.heap.size := by have := hb1.size; simp only [World.size_alloc] at this; omega
  have p0 : w1.heap[w.heap.size]? = some (.cells (entC e) 26) := (hb1.block _ (by simp only [World.size_alloc]; omega)).trans ((heap_old _ _ _ (by simp only [World.size_alloc]; omega)).trans ((heap_old _ _ _ (by simp only [World.size_alloc]; omega)).trans (heap_at _ _ _ rfl)))
  have p1 : w1.heap[w.heap.size + 1]? = some (.cells (lkC b1) 28) := (hb1.block _ (by simp only [World.size_alloc]; omega)).trans ((heap_old _ _ _ (by simp only [World.size_alloc]; omega)).trans (heap_at _ _ _ (by simp only [World.size_alloc])))
  have p2 : w1.heap[w.heap.size + 1 + 1]? = some (.cells (lkC b2) 28) := (hb1.block _ (by simp only [World.size_alloc]; omega)).trans (heap_at _ _ _ (by simp only [World.size_alloc]))
  cases b with
  | false =>
    clear p0 p1 p2
    go_wp2
    go_ret
    exact ⟨rfl, B1⟩
  | true =>
  have q0 : w1.cell? ⟨w.heap.size + 1, 0, none⟩ = some (.bool b1.fg.s) := (blkCell p1 0).1
  have q1 : w1.cell? ⟨w.heap.size + 1, 1, none⟩ = some (.int .u32 b1.fg.r) := (blkCell p1 1).1
  have q2 : w1.cell? ⟨w.heap.size + 1, 2, none⟩ = some (.int .i64 b1.fg.a) := (blkCell p1 2).1
  have q3 : w1.cell? ⟨w.heap.size + 1, 3, none⟩ = some (.bool b1.bg.s) := (blkCell p1 3).1
  have q4 : w1.cell? ⟨w.heap.size + 1, 4, none⟩ = some (.int .u32 b1.bg.r) := (blkCell p1 4).1
  have q5 : w1.cell? ⟨w.heap.size + 1, 5, none⟩ = some (.int .i64 b1.bg.a) := (blkCell p1 5).1
  have q6 : w1.cell? ⟨w.heap.size + 1, 6, none⟩ = some (.bool b1.b) := (blkCell p1 6).1
  have q7 : w1.cell? ⟨w.heap.size + 1, 7, none⟩ = some (.bool b1.i) := (blkCell p1 7).1
  have q8 : w1.cell? ⟨w.heap.size + 1, 8, none⟩ = some (.bool b1.u) := (blkCell p1 8).1
  clear hb1
  go_wp2_with fail
  refine Calls.mono (K1.out _) ?_
  rintro x w2 ⟨b, rfl, hb2, _⟩
  have B2 := B1.trans (hb2.mono B1.size)
  have z2 : w.heap.size + 1 + 1 < w2.heap.size := by have := hb2.size; omega
  have r0 := below_block hb2 _ (by omega) _ p0
  have r1 := below_block hb2 _ (by omega) _ p1
  have r2 := below_block hb2 _ z1 _ p2
  clear p0 p1 p2 q0 q1 q2 q3 q4 q5 q6 q7 q8
  cases b with
  | false =>
    clear r0 r1 r2
    go_wp2
    go_ret
    exact ⟨rfl, B2⟩
  | true =>
  have q0 : w2.cell? ⟨w.heap.size + 1 + 1, 0, none⟩ = some (.bool b2.fg.s) := (blkCell r2 0).1
  have q1 : w2.cell? ⟨w.heap.size + 1 + 1, 1, none⟩ = some (.int .u32 b2.fg.r) := (blkCell r2 1).1
  have q2 : w2.cell? ⟨w.heap.size + 1 + 1, 2, none⟩ = some (.int .i64 b2.fg.a) := (blkCell r2 2).1
  have q3 : w2.cell? ⟨w.heap.size + 1 + 1, 3, none⟩ = some (.bool b2.bg.s) := (blkCell r2 3).1
  have q4 : w2.cell? ⟨w.heap.size + 1 + 1, 4, none⟩ = some (.int .u32 b2.bg.r) := (blkCell r2 4).1
  have q5 : w2.cell? ⟨w.heap.size + 1 + 1, 5, none⟩ = some (.int .i64 b2.bg.a) := (blkCell r2 5).1
  have q6 : w2.cell? ⟨w.heap.size + 1 + 1, 6, none⟩ = some (.bool b2.b) := (blkCell r2 6).1
  have q7 : w2.cell? ⟨w.heap.size + 1 + 1, 7, none⟩ = some (.bool b2.i) := (blkCell r2 7).1
  have q8 : w2.cell? ⟨w.heap.size + 1 + 1, 8, none⟩ = some (.bool b2.u) := (blkCell r2 8).1
  clear hb2
  go_wp2_with fail
  refine Calls.mono (K2.out _) ?_
  rintro x w3 ⟨b, rfl, hb3, _⟩
  have B3 := B2.trans (hb3.mono B2.size)
  have z3 : w.heap.size + 1 + 1 < w3.heap.size := by have := hb3.size; omega
  have s0 := below_block hb3 _ (by omega) _ r0
  have s1 := below_block hb3 _ (by omega) _ r1
  have s2 := below_block hb3 _ z2 _ r2
  clear r0 r1 r2 hb3 B1 B2 z1 z2 q0 q1 q2 q3 q4 q5 q6 q7 q8
  cases b with
  | false =>
    clear s0 s1 s2
    go_wp2
    go_ret
    exact ⟨rfl, B3⟩
  | true =>
  have q0 : w3.cell? ⟨w.heap.size + 1, 0, none⟩ = some (.bool b1.fg.s) := (blkCell s1 0).1
  have q1 : w3.cell? ⟨w.heap.size + 1, 1, none⟩ = some (.int .u32 b1.fg.r) := (blkCell s1 1).1
  have q2 : w3.cell? ⟨w.heap.size + 1, 2, none⟩ = some (.int .i64 b1.fg.a) := (blkCell s1 2).1
  have q3 : w3.cell? ⟨w.heap.size + 1, 3, none⟩ = some (.bool b1.bg.s) := (blkCell s1 3).1
  have q4 : w3.cell? ⟨w.heap.size + 1, 4, none⟩ = some (.int .u32 b1.bg.r) := (blkCell s1 4).1
  have q5 : w3.cell? ⟨w.heap.size + 1, 5, none⟩ = some (.int .i64 b1.bg.a) := (blkCell s1 5).1
  have q6 : w3.cell? ⟨w.heap.size + 1, 6, none⟩ = some (.bool b1.b) := (blkCell s1 6).1
  have q7 : w3.cell? ⟨w.heap.size + 1, 7, none⟩ = some (.bool b1.i) := (blkCell s1 7).1
  have q8 : w3.cell? ⟨w.heap.size + 1, 8, none⟩ = some (.bool b1.u) := (blkCell s1 8).1
  have y3 : w.heap.size + 1 < w3.heap.size := by omega
  have y4 : w.heap.size + 1 < w3.heap.size + 1 := by omega
  have S0 : Hid _ := s0
  have S1 : Hid _ := s1
  have S2 : Hid _ := s2
  clear s0 s1 s2
  go_upto_region 4 with fail
  go_cut [30] (fun s30 wx => s30 = .bool false ∧ Below (w3.heap.size + 1) (w3.alloc (.cells #[.bool false, .bool false, .int .u32 0, .int .i64 0, .bool false, .int .u32 0, .int .i64 0, .bool false, .int .u32 0, .int .i64 0, .int .i64 0, .int .i64 0, .int .i64 0] 26)) wx)
  case first =>
    go_region_with (go_at_call 7; refine Calls.mono (KA.out _) ?_; rintro x w4 ⟨rfl, hb4⟩; obtain ⟨hc4, hf4⟩ := bcell hb4; simp only [lkC])
    all_goals (go_wp2_with fail; go_meet; exact ⟨rfl, Below.trans (by go_grown) (hb4.mono (by simp only [World.size_alloc, World.size_drew]; omega))⟩)
  case rest =>
  rename World => wA
  obtain ⟨rfl, hcb⟩ := hcut
  have zc : w3.heap.size + 1 ≤ wA.heap.size := by have := hcb.size; simp only [World.size_alloc] at this; omega
  have BC : Below w.heap.size w wA := (B3.alloc B3.size _).trans (hcb.mono (by omega))
  have t0 : wA.heap[w.heap.size]? = some (.cells (entC e) 26) := (hcb.block _ (by omega)).trans ((heap_old w3 _ _ (by omega)).trans S0.out)
  have t1 : wA.heap[w.heap.size + 1]? = some (.cells (lkC b1) 28) := (hcb.block _ (by omega)).trans ((heap_old w3 _ _ (by omega)).trans S1.out)
  have t2 : wA.heap[w.heap.size + 1 + 1]? = some (.cells (lkC b2) 28) := (hcb.block _ (by omega)).trans ((heap_old w3 _ _ (by omega)).trans S2.out)
  clear hcb S0 S1 S2 B3 y3 y4 KA KE K1 K2 q0 q1 q2 q3 q4 q5 q6 q7 q8
  have hz : w.heap.size + 1 + 1 < wA.heap.size := by omega
  clear zc z3
  have q0 : wA.cell? ⟨w.heap.size + 1, 0, none⟩ = some (.bool b1.fg.s) := (blkCell t1 0).1
  have q1 : wA.cell? ⟨w.heap.size + 1, 1, none⟩ = some (.int .u32 b1.fg.r) := (blkCell t1 1).1
  have q2 : wA.cell? ⟨w.heap.size + 1, 2, none⟩ = some (.int .i64 b1.fg.a) := (blkCell t1 2).1
  have q3 : wA.cell? ⟨w.heap.size + 1, 3, none⟩ = some (.bool b1.bg.s) := (blkCell t1 3).1
  have q4 : wA.cell? ⟨w.heap.size + 1, 4, none⟩ = some (.int .u32 b1.bg.r) := (blkCell t1 4).1
  have q5 : wA.cell? ⟨w.heap.size + 1, 5, none⟩ = some (.int .i64 b1.bg.a) := (blkCell t1 5).1
  have q6 : wA.cell? ⟨w.heap.size + 1, 6, none⟩ = some (.bool b1.b) := (blkCell t1 6).1
  have q7 : wA.cell? ⟨w.heap.size + 1, 7, none⟩ = some (.bool b1.i) := (blkCell t1 7).1
  have q8 : wA.cell? ⟨w.heap.size + 1, 8, none⟩ = some (.bool b1.u) := (blkCell t1 8).1
  have y3 : w.heap.size + 1 < wA.heap.size := by omega
  have y4 : w.heap.size + 1 < wA.heap.size + 1 := by omega
  have y5 : w.heap.size + 1 < wA.heap.size + 1 + 1 := by omega
  have T0 : Hid _ := t0
  have T1 : Hid _ := t1
  have T2 : Hid _ := t2
  clear t0 t1 t2
  go_upto_region 8 with fail
  go_cut [36] (fun s36 wx => s36 = .bool false ∧ Below (wA.heap.size + 1 + 1) ((wA.alloc (.cells #[.bool false, .int .u32 0, .int .i64 0, .bool false, .int .u32 0, .int .i64 0, .bool false, .bool false, .bool false] 28)).alloc (.cells #[.bool true, .bool false, .int .u32 0, .int .i64 0, .bool false, .int .u32 0, .int .i64 0, .bool false, .int .u32 0, .int .i64 0, .int .i64 0, .int .i64 0, .int .i64 0] 26)) wx)
  case first =>
    go_region_with (go_at_call 7; refine Calls.mono (KF.out _) ?_; rintro x w4 ⟨rfl, hb4⟩; obtain ⟨hc4, hf4⟩ := bcell hb4; simp only [lkC, zlk, zcol])
    all_goals (go_wp2_with fail; go_meet; exact ⟨rfl, Below.trans (by go_grown) (hb4.mono (by simp only [World.size_alloc, World.size_drew]; omega))⟩)
  case rest =>
  rename World => wB
  obtain ⟨rfl, hcb⟩ := hcut
  have zc : wA.heap.size + 1 + 1 ≤ wB.heap.size := by have := hcb.size; simp only [World.size_alloc] at this; omega
  have BB : Below w.heap.size w wB := Below.trans ((BC.alloc BC.size _).alloc (by simp only [World.size_alloc]; omega) _) (hcb.mono (by omega))
  have t0 : wB.heap[w.heap.size]? = some (.cells (entC e) 26) := (hcb.block _ (by omega)).trans ((heap_old _ _ _ (by simp only [World.size_alloc]; omega)).trans ((heap_old wA _ _ (by omega)).trans T0.out))
  have t1 : wB.heap[w.heap.size + 1]? = some (.cells (lkC b1) 28) := (hcb.block _ (by omega)).trans ((heap_old _ _ _ (by simp only [World.size_alloc]; omega)).trans ((heap_old wA _ _ (by omega)).trans T1.out))
  have t2 : wB.heap[w.heap.size + 1 + 1]? = some (.cells (lkC b2) 28) := (hcb.block _ (by omega)).trans ((heap_old _ _ _ (by simp only [World.size_alloc]; omega)).trans ((heap_old wA _ _ (by omega)).trans T2.out))
  have t3 : wB.heap[wA.heap.size]? = some (.cells (lkC zlk) 28) := (hcb.block _ (by omega)).trans ((heap_old _ _ _ (by simp only [World.size_alloc]; omega)).trans (heap_at wA _ _ rfl))
  clear hcb T0 T1 T2 BC y3 y4 y5 KF q0 q1 q2 q3 q4 q5 q6 q7 q8
  have hzB : w.heap.size + 1 + 1 < wB.heap.size := by omega
  have hzA : wA.heap.size < wB.heap.size := by omega
  clear zc
  have q0 : wB.cell? ⟨w.heap.size + 1, 0, none⟩ = some (.bool b1.fg.s) := (blkCell t1 0).1
  have q1 : wB.cell? ⟨w.heap.size + 1, 1, none⟩ = some (.int .u32 b1.fg.r) := (blkCell t1 1).1
  have q2 : wB.cell? ⟨w.heap.size + 1, 2, none⟩ = some (.int .i64 b1.fg.a) := (blkCell t1 2).1
  have q3 : wB.cell? ⟨w.heap.size + 1, 3, none⟩ = some (.bool b1.bg.s) := (blkCell t1 3).1
  have q4 : wB.cell? ⟨w.heap.size + 1, 4, none⟩ = some (.int .u32 b1.bg.r) := (blkCell t1 4).1
  have q5 : wB.cell? ⟨w.heap.size + 1, 5, none⟩ = some (.int .i64 b1.bg.a) := (blkCell t1 5).1
  have q6 : wB.cell? ⟨w.heap.size + 1, 6, none⟩ = some (.bool b1.b) := (blkCell t1 6).1
  have q7 : wB.cell? ⟨w.heap.size + 1, 7, none⟩ = some (.bool b1.i) := (blkCell t1 7).1
  have q8 : wB.cell? ⟨w.heap.size + 1, 8, none⟩ = some (.bool b1.u) := (blkCell t1 8).1
  have p0 : wB.cell? ⟨w.heap.size, 0, none⟩ = some (.bool e.ni) := (blkCell t0 0).1
  have p1 : wB.cell? ⟨w.heap.size, 1, none⟩ = some (.bool e.fg.s) := (blkCell t0 1).1
  have p2 : wB.cell? ⟨w.heap.size, 2, none⟩ = some (.int .u32 e.fg.r) := (blkCell t0 2).1
  have p3 : wB.cell? ⟨w.heap.size, 3, none⟩ = some (.int .i64 e.fg.a) := (blkCell t0 3).1
  have p4 : wB.cell? ⟨w.heap.size, 4, none⟩ = some (.bool e.bg.s) := (blkCell t0 4).1
  have p5 : wB.cell? ⟨w.heap.size, 5, none⟩ = some (.int .u32 e.bg.r) := (blkCell t0 5).1
  have p6 : wB.cell? ⟨w.heap.size, 6, none⟩ = some (.int .i64 e.bg.a) := (blkCell t0 6).1
  have p7 : wB.cell? ⟨w.heap.size, 7, none⟩ = some (.bool e.bo.s) := (blkCell t0 7).1
  have p8 : wB.cell? ⟨w.heap.size, 8, none⟩ = some (.int .u32 e.bo.r) := (blkCell t0 8).1
  have p9 : wB.cell? ⟨w.heap.size, 9, none⟩ = some (.int .i64 e.bo.a) := (blkCell t0 9).1
  have p10 : wB.cell? ⟨w.heap.size, 10, none⟩ = some (.int .i64 e.b) := (blkCell t0 10).1
  have p11 : wB.cell? ⟨w.heap.size, 11, none⟩ = some (.int .i64 e.i) := (blkCell t0 11).1
  have p12 : wB.cell? ⟨w.heap.size, 12, none⟩ = some (.int .i64 e.u) := (blkCell t0 12).1
  have T0 : Hid _ := t0
  have T1 : Hid _ := t1
  have T2 : Hid _ := t2
  have T3 : Hid _ := t3
  clear t0 t1 t2 t3
  go_wp2_with fail
  refine Calls.mono (KR.out _) ?_
  rintro x w5 ⟨rfl, hb5⟩
  have z5 := hb5.size
  have B5 := BB.trans (hb5.mono BB.size)
  have u0 := below_block hb5 _ (by omega) _ T0.out
  have u1 := below_block hb5 _ (by omega) _ T1.out
  have u2 := below_block hb5 _ (by omega) _ T2.out
  have u3 := below_block hb5 _ hzA _ T3.out
  clear hb5 T0 T1 T2 T3 BB q0 q1 q2 q3 q4 q5 q6 q7 q8 p0 p1 p2 p3 p4 p5 p6 p7 p8 p9 p10 p11 p12
  have hz5 : w.heap.size + 1 + 1 < w5.heap.size := by omega
  have hA5 : wA.heap.size < w5.heap.size := by omega
  clear z5
  simp only [lkC]
  have p0 : w5.cell? ⟨w.heap.size, 0, none⟩ = some (.bool e.ni) := (blkCell u0 0).1
  have p1 : w5.cell? ⟨w.heap.size, 1, none⟩ = some (.bool e.fg.s) := (blkCell u0 1).1
  have p2 : w5.cell? ⟨w.heap.size, 2, none⟩ = some (.int .u32 e.fg.r) := (blkCell u0 2).1
  have p3 : w5.cell? ⟨w.heap.size, 3, none⟩ = some (.int .i64 e.fg.a) := (blkCell u0 3).1
  have p4 : w5.cell? ⟨w.heap.size, 4, none⟩ = some (.bool e.bg.s) := (blkCell u0 4).1
  have p5 : w5.cell? ⟨w.heap.size, 5, none⟩ = some (.int .u32 e.bg.r) := (blkCell u0 5).1
  have p6 : w5.cell? ⟨w.heap.size, 6, none⟩ = some (.int .i64 e.bg.a) := (blkCell u0 6).1
  have p7 : w5.cell? ⟨w.heap.size, 7, none⟩ = some (.bool e.bo.s) := (blkCell u0 7).1
  have p8 : w5.cell? ⟨w.heap.size, 8, none⟩ = some (.int .u32 e.bo.r) := (blkCell u0 8).1
  have p9 : w5.cell? ⟨w.heap.size, 9, none⟩ = some (.int .i64 e.bo.a) := (blkCell u0 9).1
  have p10 : w5.cell? ⟨w.heap.size, 10, none⟩ = some (.int .i64 e.b) := (blkCell u0 10).1
  have p11 : w5.cell? ⟨w.heap.size, 11, none⟩ = some (.int .i64 e.i) := (blkCell u0 11).1
  have p12 : w5.cell? ⟨w.heap.size, 12, none⟩ = some (.int .i64 e.u) := (blkCell u0 12).1
  have U0 : Hid _ := u0
  have U1 : Hid _ := u1
  have U2 : Hid _ := u2
  have U3 : Hid _ := u3
  clear u0 u1 u2 u3
  have y3 : w.heap.size < w5.heap.size := by omega
  have y4 : w.heap.size < w5.heap.size + 1 := by omega
  go_upto_region 11 with fail
  go_cut [44] (fun s44 wx => s44 = .bool false ∧ Below (w5.heap.size + 1) (w5.alloc (.cells #[.bool (app e b1).fg.s, .int .u32 (app e b1).fg.r, .int .i64 (app e b1).fg.a, .bool (app e b1).bg.s, .int .u32 (app e b1).bg.r, .int .i64 (app e b1).bg.a, .bool (app e b1).b, .bool (app e b1).i, .bool (app e b1).u] 28)) wx)
  case first =>
    go_region_with (go_at_call 7; refine Calls.mono (KR2.out _) ?_; rintro x w6 ⟨rfl, hb6⟩; obtain ⟨hc6, hf6⟩ := bcell hb6; simp only [lkC])
    all_goals (go_wp2_with fail; go_meet; exact ⟨rfl, Below.trans (by go_grown) (hb6.mono (by simp only [World.size_alloc, World.size_drew]; omega))⟩)
  case rest =>
  rename World => wC
  obtain ⟨rfl, hcb⟩ := hcut
  have zc : w5.heap.size + 1 ≤ wC.heap.size := by have := hcb.size; simp only [World.size_alloc] at this; omega
  have BC : Below w.heap.size w wC := (B5.alloc B5.size _).trans (hcb.mono (by omega))
  have t0 : wC.heap[w.heap.size]? = some (.cells (entC e) 26) := (hcb.block _ (by omega)).trans ((heap_old w5 _ _ (by omega)).trans U0.out)
  have t1 : wC.heap[w.heap.size + 1]? = some (.cells (lkC b1) 28) := (hcb.block _ (by omega)).trans ((heap_old w5 _ _ (by omega)).trans U1.out)
  have t2 : wC.heap[w.heap.size + 1 + 1]? = some (.cells (lkC b2) 28) := (hcb.block _ (by omega)).trans ((heap_old w5 _ _ (by omega)).trans U2.out)
  have t3 : wC.heap[wA.heap.size]? = some (.cells (lkC zlk) 28) := (hcb.block _ (by omega)).trans ((heap_old w5 _ _ (by omega)).trans U3.out)
  clear hcb U0 U1 U2 U3 B5 y3 y4 KR KR2 p0 p1 p2 p3 p4 p5 p6 p7 p8 p9 p10 p11 p12
  have hzC : w.heap.size + 1 + 1 < wC.heap.size := by omega
  have hAC : wA.heap.size < wC.heap.size := by omega
  have y3 : w.heap.size + 1 < wC.heap.size := by omega
  clear zc hz5 hA5 hzB hzA hz
  have q0 : wC.cell? ⟨w.heap.size + 1, 0, none⟩ = some (.bool b1.fg.s) := (blkCell t1 0).1
  have q1 : wC.cell? ⟨w.heap.size + 1, 1, none⟩ = some (.int .u32 b1.fg.r) := (blkCell t1 1).1
  have q2 : wC.cell? ⟨w.heap.size + 1, 2, none⟩ = some (.int .i64 b1.fg.a) := (blkCell t1 2).1
  have q3 : wC.cell? ⟨w.heap.size + 1, 3, none⟩ = some (.bool b1.bg.s) := (blkCell t1 3).1
  have q4 : wC.cell? ⟨w.heap.size + 1, 4, none⟩ = some (.int .u32 b1.bg.r) := (blkCell t1 4).1
  have q5 : wC.cell? ⟨w.heap.size + 1, 5, none⟩ = some (.int .i64 b1.bg.a) := (blkCell t1 5).1
  have q6 : wC.cell? ⟨w.heap.size + 1, 6, none⟩ = some (.bool b1.b) := (blkCell t1 6).1
  have q7 : wC.cell? ⟨w.heap.size + 1, 7, none⟩ = some (.bool b1.i) := (blkCell t1 7).1
  have q8 : wC.cell? ⟨w.heap.size + 1, 8, none⟩ = some (.bool b1.u) := (blkCell t1 8).1
  have p0 : wC.cell? ⟨w.heap.size, 0, none⟩ = some (.bool e.ni) := (blkCell t0 0).1
  have p1 : wC.cell? ⟨w.heap.size, 1, none⟩ = some (.bool e.fg.s) := (blkCell t0 1).1
  have p2 : wC.cell? ⟨w.heap.size, 2, none⟩ = some (.int .u32 e.fg.r) := (blkCell t0 2).1
  have p3 : wC.cell? ⟨w.heap.size, 3, none⟩ = some (.int .i64 e.fg.a) := (blkCell t0 3).1
  have p4 : wC.cell? ⟨w.heap.size, 4, none⟩ = some (.bool e.bg.s) := (blkCell t0 4).1
  have p5 : wC.cell? ⟨w.heap.size, 5, none⟩ = some (.int .u32 e.bg.r) := (blkCell t0 5).1
  have p6 : wC.cell? ⟨w.heap.size, 6, none⟩ = some (.int .i64 e.bg.a) := (blkCell t0 6).1
  have p7 : wC.cell? ⟨w.heap.size, 7, none⟩ = some (.bool e.bo.s) := (blkCell t0 7).1
  have p8 : wC.cell? ⟨w.heap.size, 8, none⟩ = some (.int .u32 e.bo.r) := (blkCell t0 8).1
  have p9 : wC.cell? ⟨w.heap.size, 9, none⟩ = some (.int .i64 e.bo.a) := (blkCell t0 9).1
  have p10 : wC.cell? ⟨w.heap.size, 10, none⟩ = some (.int .i64 e.b) := (blkCell t0 10).1
  have p11 : wC.cell? ⟨w.heap.size, 11, none⟩ = some (.int .i64 e.i) := (blkCell t0 11).1
  have p12 : wC.cell? ⟨w.heap.size, 12, none⟩ = some (.int .i64 e.u) := (blkCell t0 12).1
  have T2 : Hid _ := t2
  have T3 : Hid _ := t3
  clear t0 t1 t2 t3
  go_wp2_with fail
  refine Calls.mono (KN.out _ _ _ _ _ _ _ _ _ _) ?_
  rintro x w7 ⟨rfl, hb7⟩
  have z7 := hb7.size
  simp only [World.size_alloc] at z7
  have B7 : Below w.heap.size w w7 := (BC.alloc BC.size _).trans (hb7.mono (by simp only [World.size_alloc]; omega))
  have u2 : w7.heap[w.heap.size + 1 + 1]? = some (.cells (lkC b2) 28) := (hb7.block _ (by simp only [World.size_alloc]; omega)).trans ((heap_old wC _ _ (by omega)).trans T2.out)
  have u3 : w7.heap[wA.heap.size]? = some (.cells (lkC zlk) 28) := (hb7.block _ (by simp only [World.size_alloc]; omega)).trans ((heap_old wC _ _ (by omega)).trans T3.out)
  have u4 : w7.heap[wC.heap.size]? = some (.cells (entC (en e)) 26) := (hb7.block _ (by simp only [World.size_alloc]; omega)).trans (heap_at wC _ _ rfl)
  clear hb7 T2 T3 BC y3 q0 q1 q2 q3 q4 q5 q6 q7 q8 p0 p1 p2 p3 p4 p5 p6 p7 p8 p9 p10 p11 p12
  simp only [lkC]
  have q0 : w7.cell? ⟨w.heap.size + 1 + 1, 0, none⟩ = some (.bool b2.fg.s) := (blkCell u2 0).1
  have q1 : w7.cell? ⟨w.heap.size + 1 + 1, 1, none⟩ = some (.int .u32 b2.fg.r) := (blkCell u2 1).1
  have q2 : w7.cell? ⟨w.heap.size + 1 + 1, 2, none⟩ = some (.int .i64 b2.fg.a) := (blkCell u2 2).1
  have q3 : w7.cell? ⟨w.heap.size + 1 + 1, 3, none⟩ = some (.bool b2.bg.s) := (blkCell u2 3).1
  have q4 : w7.cell? ⟨w.heap.size + 1 + 1, 4, none⟩ = some (.int .u32 b2.bg.r) := (blkCell u2 4).1
  have q5 : w7.cell? ⟨w.heap.size + 1 + 1, 5, none⟩ = some (.int .i64 b2.bg.a) := (blkCell u2 5).1
  have q6 : w7.cell? ⟨w.heap.size + 1 + 1, 6, none⟩ = some (.bool b2.b) := (blkCell u2 6).1
  have q7 : w7.cell? ⟨w.heap.size + 1 + 1, 7, none⟩ = some (.bool b2.i) := (blkCell u2 7).1
  have q8 : w7.cell? ⟨w.heap.size + 1 + 1, 8, none⟩ = some (.bool b2.u) := (blkCell u2 8).1
  have p0 : w7.cell? ⟨wC.heap.size, 0, none⟩ = some (.bool true) := (blkCell u4 0).1
  have p1 : w7.cell? ⟨wC.heap.size, 1, none⟩ = some (.bool e.fg.s) := (blkCell u4 1).1
  have p2 : w7.cell? ⟨wC.heap.size, 2, none⟩ = some (.int .u32 e.fg.r) := (blkCell u4 2).1
  have p3 : w7.cell? ⟨wC.heap.size, 3, none⟩ = some (.int .i64 e.fg.a) := (blkCell u4 3).1
  have p4 : w7.cell? ⟨wC.heap.size, 4, none⟩ = some (.bool e.bg.s) := (blkCell u4 4).1
  have p5 : w7.cell? ⟨wC.heap.size, 5, none⟩ = some (.int .u32 e.bg.r) := (blkCell u4 5).1
  have p6 : w7.cell? ⟨wC.heap.size, 6, none⟩ = some (.int .i64 e.bg.a) := (blkCell u4 6).1
  have p7 : w7.cell? ⟨wC.heap.size, 7, none⟩ = some (.bool e.bo.s) := (blkCell u4 7).1
  have p8 : w7.cell? ⟨wC.heap.size, 8, none⟩ = some (.int .u32 e.bo.r) := (blkCell u4 8).1
  have p9 : w7.cell? ⟨wC.heap.size, 9, none⟩ = some (.int .i64 e.bo.a) := (blkCell u4 9).1
  have p10 : w7.cell? ⟨wC.heap.size, 10, none⟩ = some (.int .i64 e.b) := (blkCell u4 10).1
  have p11 : w7.cell? ⟨wC.heap.size, 11, none⟩ = some (.int .i64 e.i) := (blkCell u4 11).1
  have p12 : w7.cell? ⟨wC.heap.size, 12, none⟩ = some (.int .i64 e.u) := (blkCell u4 12).1
  have v0 : w7.cell? ⟨wA.heap.size, 0, none⟩ = some (.bool false) := (blkCell u3 0).1
  have v1 : w7.cell? ⟨wA.heap.size, 1, none⟩ = some (.int .u32 0) := (blkCell u3 1).1
  have v2 : w7.cell? ⟨wA.heap.size, 2, none⟩ = some (.int .i64 0) := (blkCell u3 2).1
  have v3 : w7.cell? ⟨wA.heap.size, 3, none⟩ = some (.bool false) := (blkCell u3 3).1
  have v4 : w7.cell? ⟨wA.heap.size, 4, none⟩ = some (.int .u32 0) := (blkCell u3 4).1
  have v5 : w7.cell? ⟨wA.heap.size, 5, none⟩ = some (.int .i64 0) := (blkCell u3 5).1
  have v6 : w7.cell? ⟨wA.heap.size, 6, none⟩ = some (.bool false) := (blkCell u3 6).1
  have v7 : w7.cell? ⟨wA.heap.size, 7, none⟩ = some (.bool false) := (blkCell u3 7).1
  have v8 : w7.cell? ⟨wA.heap.size, 8, none⟩ = some (.bool false) := (blkCell u3 8).1
  clear u2 u3 u4
  have a1 : wA.heap.size < w7.heap.size := by omega
  have a2 : wC.heap.size < w7.heap.size := by omega
  have a3 : w.heap.size + 1 + 1 < w7.heap.size := by omega
  have a4 : wA.heap.size < w7.heap.size + 1 := by omega
  have a5 : wC.heap.size < w7.heap.size + 1 := by omega
  have a6 : w.heap.size + 1 + 1 < w7.heap.size + 1 := by omega
  have a0 : w.heap.size ≤ w7.heap.size := by omega
  clear z7 hzC hAC
  go_wp2_with fail
  go_region_with (go_at_call 7; refine Calls.mono (KN.out _ _ _ _ _ _ _ _ _ _) ?_; rintro x w8 ⟨rfl, hb8⟩; obtain ⟨hc8, hf8⟩ := bcell hb8; have z8 := hb8.size; (try simp only [World.size_alloc, World.size_drew] at z8); have b1_ : wA.heap.size < w8.heap.size := (by omega); have b2_ : wC.heap.size < w8.heap.size := (by omega); have b3_ : w7.heap.size < w8.heap.size := (by omega); have B8 : Below w.heap.size w w8 := (Below.trans (by go_grown) (hb8.mono (by (try simp only [World.size_alloc, World.size_drew]); omega))); simp only [lkC])
  all_goals (go_wp2; go_ret; exact ⟨rfl, B8⟩)
end Go.Proofs.Qxb6615783a
