/-
  Seat b6615783a: applyEntry.
-/
import Derived.Test.Qxb6615783aWalkC
import Derived.Deep.RegionWith
import Derived.Deep.DrawnRows
namespace Go.Proofs.Qxb6615783a
open Go.RowKit
attribute [local go_sem ↓] Go.wp_at_zero Go.wp_at_succ

set_option maxHeartbeats 2000000 in
set_option maxRecDepth 100000 in
theorem applyEntry_any (e : Ent) (l : Lk) (w : World) :
    Calls Try.prog 7 #[.agg (entC e), .agg (lkC l)] w fun x w' => x = .returned (.agg (lkC (app e l))) ∧ Below w.heap.size w w' := by
  have k14 := toZZEntry_any e
  have k15 := toZZLook_any l
  have k13 := zzApply_any e l
  have k12 := fromZZLook_any (app e l)
  have K14 : Hid _ := k14
  have K15 : Hid _ := k15
  have K13 : Hid _ := k13
  have K12 : Hid _ := k12
  clear k14 k15 k13 k12
  unfold entC lkC
  go_enter Try.func7, Try.ntmps7
  go_wp2_with fail
  go_region_with (first
    | (go_at_call 14; refine Calls.mono (K14.out _) ?_; rintro x w1 ⟨rfl, hb1⟩; obtain ⟨hc1, hf1⟩ := bcell hb1; have z1 : w.heap.size + 1 + 1 < w1.heap.size := (by have := hb1.size; simp only [World.size_alloc, World.size_drew] at this; omega); have y1 : w.heap.size + 1 < w1.heap.size := (by omega))
    | (go_at_call 15; refine Calls.mono (K15.out _) ?_; rintro x w2 ⟨rfl, hb2⟩; obtain ⟨hc2, hf2⟩ := bcell hb2; have z2 : w.heap.size + 1 + 1 < w2.heap.size := (by have := hb2.size; omega))
    | (go_at_call 13; refine Calls.mono (K13.out _) ?_; rintro x w3 ⟨rfl, hb3⟩; obtain ⟨hc3, hf3⟩ := bcell hb3; have z3 : w.heap.size + 1 + 1 < w3.heap.size := (by have := hb3.size; omega))
    | (go_at_call 12; refine Calls.mono (K12.out _) ?_; rintro x w4 ⟨rfl, hb4⟩; obtain ⟨hc4, hf4⟩ := bcell hb4; simp only [lkC]))
  all_goals
    have B1 : Below w.heap.size w w1 := Below.trans (by go_grown) (hb1.mono (by simp only [World.size_alloc, World.size_drew]; omega))
    have B4 : Below w.heap.size w w4 := ((B1.trans (hb2.mono B1.size)).trans (hb3.mono (by omega))).trans (hb4.mono (by omega))
    have blk : w4.heap[w.heap.size + 1 + 1]? = some (.cells (lkC zlk) 28) :=
      (hb4.block _ z3).trans ((hb3.block _ z2).trans ((hb2.block _ z1).trans ((hb1.block _ (by simp only [World.size_alloc, World.size_drew]; omega)).trans (heap_at _ _ _ (by simp only [World.size_alloc])))))
    have c0 : w4.cell? ⟨w.heap.size + 1 + 1, 0, none⟩ = some (.bool false) := (blkCell blk 0).1
    have c1 : w4.cell? ⟨w.heap.size + 1 + 1, 1, none⟩ = some (.int .u32 0) := (blkCell blk 1).1
    have c2 : w4.cell? ⟨w.heap.size + 1 + 1, 2, none⟩ = some (.int .i64 0) := (blkCell blk 2).1
    have c3 : w4.cell? ⟨w.heap.size + 1 + 1, 3, none⟩ = some (.bool false) := (blkCell blk 3).1
    have c4 : w4.cell? ⟨w.heap.size + 1 + 1, 4, none⟩ = some (.int .u32 0) := (blkCell blk 4).1
    have c5 : w4.cell? ⟨w.heap.size + 1 + 1, 5, none⟩ = some (.int .i64 0) := (blkCell blk 5).1
    have c6 : w4.cell? ⟨w.heap.size + 1 + 1, 6, none⟩ = some (.bool false) := (blkCell blk 6).1
    have c7 : w4.cell? ⟨w.heap.size + 1 + 1, 7, none⟩ = some (.bool false) := (blkCell blk 7).1
    have c8 : w4.cell? ⟨w.heap.size + 1 + 1, 8, none⟩ = some (.bool false) := (blkCell blk 8).1
    clear hc1 hc2 hc3 hc4 hf1 hf2 hf3 hf4 hb1 hb2 hb3 hb4 K14 K15 K13 K12 blk
    go_wp2
    exact bodyPost_ret (v := .agg #[.bool (app e l).fg.s, .int .u32 (app e l).fg.r, .int .i64 (app e l).fg.a, .bool (app e l).bg.s, .int .u32 (app e l).bg.r, .int .i64 (app e l).bg.a, .bool (app e l).b, .bool (app e l).i, .bool (app e l).u])
      (by simp [results, Try.results7, go_sem, c0, c1, c2, c3, c4, c5, c6, c7, c8]) rfl ⟨rfl, by repeat (first | with_reducible exact B4 | with_reducible refine Below.setCell ?_ (show w.heap.size ≤ w.heap.size + 1 + 1 by omega) _)⟩
end Go.Proofs.Qxb6615783a
