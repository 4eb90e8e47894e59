/-
  Seat b6615783a: ZZApply and applyEntry.
-/
import Derived.Test.Qxb6615783aWalkB1
import Derived.Test.Qxb6615783aWalkB2
namespace Go.Proofs.Qxb6615783a
open Go.RowKit

theorem bcell {W w1 : World} (hb : Below W.heap.size W w1) : (∀ b o, b < W.heap.size → w1.cell? ⟨b, o, none⟩ = W.cell? ⟨b, o, none⟩) ∧ (∀ b o, b < W.heap.size → w1.frozen? ⟨b, o, none⟩ = W.frozen? ⟨b, o, none⟩) :=
  ⟨fun b o h => hb.cell (p := ⟨b, o, none⟩) h, fun b o h => hb.frozen (p := ⟨b, o, none⟩) h⟩

theorem heap_old (w : World) (o : Obj) (k : Nat) (h : k < w.heap.size) : (w.alloc o).heap[k]? = w.heap[k]? := (MapKept.heap_alloc w o).2 k h
theorem heap_at (w : World) (o : Obj) (k : Nat) (h : k = w.heap.size) : (w.alloc o).heap[k]? = some o := by subst h; exact (MapKept.heap_alloc w o).1
theorem blkCell {w : World} {b : Nat} {cs : Array Value} {t : TypeId} (h : w.heap[b]? = some (.cells cs t)) (k : Nat) : w.cell? ⟨b, k, none⟩ = cs[k]? ∧ w.frozen? ⟨b, k, none⟩ = false := by
  constructor
  · simp [World.cell?, h]
  · simp [World.frozen?, h]

/-- the entry's cells lie in block q. -/
def Lies (q : Nat) (e : Ent) (w : World) : Prop := w.heap[q]? = some (.cells (entC e) 54)

theorem Lies.cells {q : Nat} {e : Ent} {w : World} (h : Lies q e w) (j : Nat) : w.cell? ⟨q, j, none⟩ = (entC e)[j]? := by
  unfold Lies at h
  simp [World.cell?, h]

theorem apply_any (q : Nat) (e : Ent) (l : Lk) (w : World) (hq : q < w.heap.size) (h : Lies q e w) :
    Calls Try.prog 20 #[.pointer (some ⟨q, 0, none⟩), .agg (lkC l)] w fun x w' => x = .returned (.agg (lkC (app e l))) ∧ Below w.heap.size w w' := by
  have h0 := h.cells 0
  have h1 := h.cells 1
  have h2 := h.cells 2
  have h3 := h.cells 3
  have h4 := h.cells 4
  have h5 := h.cells 5
  have h6 := h.cells 6
  have h10 := h.cells 10
  have h11 := h.cells 11
  have h12 := h.cells 12
  cases n1 : e.ni <;> cases n2 : e.fg.s <;> cases n3 : e.bg.s
  · exact apply_fff q e l w hq h0 h1 h2 h3 h4 h5 h6 h10 h11 h12 n1 n2 n3
  · exact apply_fft q e l w hq h0 h1 h2 h3 h4 h5 h6 h10 h11 h12 n1 n2 n3
  · exact apply_ftf q e l w hq h0 h1 h2 h3 h4 h5 h6 h10 h11 h12 n1 n2 n3
  · exact apply_ftt q e l w hq h0 h1 h2 h3 h4 h5 h6 h10 h11 h12 n1 n2 n3
  · exact apply_tff q e l w hq h0 h1 h2 h3 h4 h5 h6 h10 h11 h12 n1 n2 n3
  · exact apply_tft q e l w hq h0 h1 h2 h3 h4 h5 h6 h10 h11 h12 n1 n2 n3
  · exact apply_ttf q e l w hq h0 h1 h2 h3 h4 h5 h6 h10 h11 h12 n1 n2 n3
  · exact apply_ttt q e l w hq h0 h1 h2 h3 h4 h5 h6 h10 h11 h12 n1 n2 n3

set_option maxHeartbeats 1000000 in
set_option maxRecDepth 100000 in
theorem zzApply_any (e : Ent) (l : Lk) (w : World) :
    Calls Try.prog 13 #[.agg (entC e), .agg (lkC l)] w fun x w' => x = .returned (.agg (lkC (app e l))) ∧ Below w.heap.size w w' := by
  have k18 := zzToEntry_any e
  have k21 := zzToLook_any l
  have k20 := fun q w => apply_any q e l w
  have k19 := zzFromLook_any (app e l)
  have K18 : Hid _ := k18
  have K21 : Hid _ := k21
  have K20 : Hid _ := k20
  have K19 : Hid _ := k19
  clear k18 k21 k20 k19
  unfold entC lkC
  go_enter Try.func13, Try.ntmps13
  go_wp2_with fail
  refine Calls.mono (K18.out _) ?_
  rintro x w1 ⟨rfl, hb1⟩
  have z1 := hb1.size
  simp only [World.size_alloc] at z1
  have z2 : w.heap.size < w1.heap.size := by omega
  have z3 : w.heap.size + 1 < w1.heap.size := by omega
  have z4 : w.heap.size + 1 + 1 < w1.heap.size := by omega
  obtain ⟨hc, hf⟩ := bcell hb1
  unfold entC
  go_wp2_with fail
  refine Calls.mono (K21.out _) ?_
  rintro x w2 ⟨rfl, hb2⟩
  have y1 := hb2.size
  simp only [World.size_alloc] at y1
  have y2 : w.heap.size + 1 + 1 < w1.heap.size + 1 := by omega
  have y3 : w.heap.size + 1 + 1 < w2.heap.size := by omega
  have lies : Lies w1.heap.size e w2 := (hb2.block w1.heap.size (by simp)).trans (MapKept.heap_alloc w1 _).1
  obtain ⟨hc2, hf2⟩ := bcell hb2
  go_wp2_with fail
  refine Calls.mono (K20.out w1.heap.size w2 (by omega) lies) ?_
  rintro x w3 ⟨rfl, hb3⟩
  have x1 := hb3.size
  have x2 : w.heap.size + 1 + 1 < w3.heap.size := by omega
  obtain ⟨hc3, hf3⟩ := bcell hb3
  go_wp2_with fail
  refine Calls.mono (K19.out w3) ?_
  rintro x w4 ⟨rfl, hb4⟩
  have v1 := hb4.size
  obtain ⟨hc4, hf4⟩ := bcell hb4
  unfold lkC
  have B1 : Below w.heap.size w w1 := Below.trans (by go_grown) (hb1.mono (by simp only [World.size_alloc]; omega))
  have B2 : Below w.heap.size w w2 := (B1.alloc B1.size _).trans (hb2.mono (by simp only [World.size_alloc]; omega))
  have B4 : Below w.heap.size w w4 := (B2.trans (hb3.mono B2.size)).trans (hb4.mono (by omega))
  have blk : w4.heap[w.heap.size + 1 + 1]? = some (.cells (lkC zlk) 41) :=
    (hb4.block _ x2).trans ((hb3.block _ y3).trans ((hb2.block _ (by simp only [World.size_alloc]; omega)).trans ((heap_old w1 _ _ z4).trans ((hb1.block _ (by simp only [World.size_alloc]; omega)).trans (heap_at _ _ _ (by simp only [World.size_alloc]))))))
  clear hb1 hb2 hb3 hb4 K18 K19 K20 K21 lies hc hc2 hc3 hc4 hf hf2 hf3 hf4
  have c0 : w4.cell? ⟨w.heap.size + 1 + 1, 0, none⟩ = some (.bool false) := (blkCell blk 0).1
  have c1 : w4.cell? ⟨w.heap.size + 1 + 1, 1, none⟩ = some (.int .u32 0) := (blkCell blk 1).1
  have c2 : w4.cell? ⟨w.heap.size + 1 + 1, 2, none⟩ = some (.int .i64 0) := (blkCell blk 2).1
  have c3 : w4.cell? ⟨w.heap.size + 1 + 1, 3, none⟩ = some (.bool false) := (blkCell blk 3).1
  have c4 : w4.cell? ⟨w.heap.size + 1 + 1, 4, none⟩ = some (.int .u32 0) := (blkCell blk 4).1
  have c5 : w4.cell? ⟨w.heap.size + 1 + 1, 5, none⟩ = some (.int .i64 0) := (blkCell blk 5).1
  have c6 : w4.cell? ⟨w.heap.size + 1 + 1, 6, none⟩ = some (.bool false) := (blkCell blk 6).1
  have c7 : w4.cell? ⟨w.heap.size + 1 + 1, 7, none⟩ = some (.bool false) := (blkCell blk 7).1
  have c8 : w4.cell? ⟨w.heap.size + 1 + 1, 8, none⟩ = some (.bool false) := (blkCell blk 8).1
  have f := fun k => (blkCell blk k).2
  clear blk
  go_wp2
  exact bodyPost_ret (v := .agg #[.bool (app e l).fg.s, .int .u32 (app e l).fg.r, .int .i64 (app e l).fg.a, .bool (app e l).bg.s, .int .u32 (app e l).bg.r, .int .i64 (app e l).bg.a, .bool (app e l).b, .bool (app e l).i, .bool (app e l).u])
    (by simp [results, Try.results13, go_sem, c0, c1, c2, c3, c4, c5, c6, c7, c8]) rfl ⟨rfl, by repeat (first | with_reducible exact B4 | with_reducible refine Below.setCell ?_ (show w.heap.size ≤ w.heap.size + 1 + 1 by omega) _)⟩
end Go.Proofs.Qxb6615783a
