/-
  Seat b6615783a: (*styleEntry).apply, four of its eight ways.
-/
import Derived.Test.Qxb6615783aPlain
import Derived.Deep.RegionWith
import Derived.Deep.DrawnRows
namespace Go.Proofs.Qxb6615783a
open Go.RowKit
set_option linter.unusedVariables false
set_option linter.unusedSimpArgs false
attribute [local go_sem ↓] Go.wp_at_zero Go.wp_at_succ

set_option maxHeartbeats 8000000 in
set_option maxRecDepth 100000 in
theorem apply_fff (q : Nat) (e : Ent) (l : Lk) (w : World) (hq : q < w.heap.size) (h0 : w.cell? ⟨q, 0, none⟩ = some (.bool e.ni)) (h1 : w.cell? ⟨q, 1, none⟩ = some (.bool e.fg.s)) (h2 : w.cell? ⟨q, 2, none⟩ = some (.int .u32 e.fg.r)) (h3 : w.cell? ⟨q, 3, none⟩ = some (.int .i64 e.fg.a)) (h4 : w.cell? ⟨q, 4, none⟩ = some (.bool e.bg.s)) (h5 : w.cell? ⟨q, 5, none⟩ = some (.int .u32 e.bg.r)) (h6 : w.cell? ⟨q, 6, none⟩ = some (.int .i64 e.bg.a)) (h10 : w.cell? ⟨q, 10, none⟩ = some (.int .i64 e.b)) (h11 : w.cell? ⟨q, 11, none⟩ = some (.int .i64 e.i)) (h12 : w.cell? ⟨q, 12, none⟩ = some (.int .i64 e.u)) (n1 : e.ni = false) (n2 : e.fg.s = false) (n3 : e.bg.s = false) :
    Calls Try.prog 20 #[.pointer (some ⟨q, 0, none⟩), .agg (lkC l)] w fun x w' => x = .returned (.agg (lkC (app e l))) ∧ Below w.heap.size w w' := by
  have E : lkC (app e l) = #[.bool l.fg.s, .int .u32 l.fg.r, .int .i64 l.fg.a, .bool l.bg.s, .int .u32 l.bg.r, .int .i64 l.bg.a, .bool (tog e.b l.b), .bool (tog e.i l.i), .bool (tog e.u l.u)] := by
    unfold lkC app und
    simp [n1, n2, n3, zlk, zcol]
  rw [E]
  rw [n1] at h0
  rw [n2] at h1
  rw [n3] at h4
  have hq1 : q < w.heap.size + 1 := by omega
  have hq2 : q ≠ w.heap.size := by omega
  have hq3 : q ≠ w.heap.size + 1 := by omega
  clear n1 n2 n3 E
  unfold lkC
  go_enter Try.func20, Try.ntmps20
  go_wp2_with fail
  go_region_with (go_at_call 25; refine (toggle_any _ _ _).mono ?_; rintro x w' ⟨rfl, rfl⟩)
  all_goals
    go_wp2_with fail
    go_region_with (go_at_call 25; refine (toggle_any _ _ _).mono ?_; rintro x w' ⟨rfl, rfl⟩)
    all_goals
      go_wp2_with fail
      go_region_with (go_at_call 25; refine (toggle_any _ _ _).mono ?_; rintro x w' ⟨rfl, rfl⟩)
      all_goals
        go_wp2
        exact bodyPost_ret (v := .agg #[.bool l.fg.s, .int .u32 l.fg.r, .int .i64 l.fg.a, .bool l.bg.s, .int .u32 l.bg.r, .int .i64 l.bg.a, .bool (tog e.b l.b), .bool (tog e.i l.i), .bool (tog e.u l.u)]) (by simp [results, Try.results20, go_sem]) rfl ⟨rfl, by go_grown⟩

set_option maxHeartbeats 8000000 in
set_option maxRecDepth 100000 in
theorem apply_fft (q : Nat) (e : Ent) (l : Lk) (w : World) (hq : q < w.heap.size) (h0 : w.cell? ⟨q, 0, none⟩ = some (.bool e.ni)) (h1 : w.cell? ⟨q, 1, none⟩ = some (.bool e.fg.s)) (h2 : w.cell? ⟨q, 2, none⟩ = some (.int .u32 e.fg.r)) (h3 : w.cell? ⟨q, 3, none⟩ = some (.int .i64 e.fg.a)) (h4 : w.cell? ⟨q, 4, none⟩ = some (.bool e.bg.s)) (h5 : w.cell? ⟨q, 5, none⟩ = some (.int .u32 e.bg.r)) (h6 : w.cell? ⟨q, 6, none⟩ = some (.int .i64 e.bg.a)) (h10 : w.cell? ⟨q, 10, none⟩ = some (.int .i64 e.b)) (h11 : w.cell? ⟨q, 11, none⟩ = some (.int .i64 e.i)) (h12 : w.cell? ⟨q, 12, none⟩ = some (.int .i64 e.u)) (n1 : e.ni = false) (n2 : e.fg.s = false) (n3 : e.bg.s = true) :
    Calls Try.prog 20 #[.pointer (some ⟨q, 0, none⟩), .agg (lkC l)] w fun x w' => x = .returned (.agg (lkC (app e l))) ∧ Below w.heap.size w w' := by
  have E : lkC (app e l) = #[.bool l.fg.s, .int .u32 l.fg.r, .int .i64 l.fg.a, .bool true, .int .u32 e.bg.r, .int .i64 e.bg.a, .bool (tog e.b l.b), .bool (tog e.i l.i), .bool (tog e.u l.u)] := by
    unfold lkC app und
    simp [n1, n2, n3, zlk, zcol]
  rw [E]
  rw [n1] at h0
  rw [n2] at h1
  rw [n3] at h4
  have hq1 : q < w.heap.size + 1 := by omega
  have hq2 : q ≠ w.heap.size := by omega
  have hq3 : q ≠ w.heap.size + 1 := by omega
  clear n1 n2 n3 E
  unfold lkC
  go_enter Try.func20, Try.ntmps20
  go_wp2_with fail
  go_region_with (go_at_call 25; refine (toggle_any _ _ _).mono ?_; rintro x w' ⟨rfl, rfl⟩)
  all_goals
    go_wp2_with fail
    go_region_with (go_at_call 25; refine (toggle_any _ _ _).mono ?_; rintro x w' ⟨rfl, rfl⟩)
    all_goals
      go_wp2_with fail
      go_region_with (go_at_call 25; refine (toggle_any _ _ _).mono ?_; rintro x w' ⟨rfl, rfl⟩)
      all_goals
        go_wp2
        exact bodyPost_ret (v := .agg #[.bool l.fg.s, .int .u32 l.fg.r, .int .i64 l.fg.a, .bool true, .int .u32 e.bg.r, .int .i64 e.bg.a, .bool (tog e.b l.b), .bool (tog e.i l.i), .bool (tog e.u l.u)]) (by simp [results, Try.results20, go_sem]) rfl ⟨rfl, by go_grown⟩

set_option maxHeartbeats 8000000 in
set_option maxRecDepth 100000 in
theorem apply_ftf (q : Nat) (e : Ent) (l : Lk) (w : World) (hq : q < w.heap.size) (h0 : w.cell? ⟨q, 0, none⟩ = some (.bool e.ni)) (h1 : w.cell? ⟨q, 1, none⟩ = some (.bool e.fg.s)) (h2 : w.cell? ⟨q, 2, none⟩ = some (.int .u32 e.fg.r)) (h3 : w.cell? ⟨q, 3, none⟩ = some (.int .i64 e.fg.a)) (h4 : w.cell? ⟨q, 4, none⟩ = some (.bool e.bg.s)) (h5 : w.cell? ⟨q, 5, none⟩ = some (.int .u32 e.bg.r)) (h6 : w.cell? ⟨q, 6, none⟩ = some (.int .i64 e.bg.a)) (h10 : w.cell? ⟨q, 10, none⟩ = some (.int .i64 e.b)) (h11 : w.cell? ⟨q, 11, none⟩ = some (.int .i64 e.i)) (h12 : w.cell? ⟨q, 12, none⟩ = some (.int .i64 e.u)) (n1 : e.ni = false) (n2 : e.fg.s = true) (n3 : e.bg.s = false) :
    Calls Try.prog 20 #[.pointer (some ⟨q, 0, none⟩), .agg (lkC l)] w fun x w' => x = .returned (.agg (lkC (app e l))) ∧ Below w.heap.size w w' := by
  have E : lkC (app e l) = #[.bool true, .int .u32 e.fg.r, .int .i64 e.fg.a, .bool l.bg.s, .int .u32 l.bg.r, .int .i64 l.bg.a, .bool (tog e.b l.b), .bool (tog e.i l.i), .bool (tog e.u l.u)] := by
    unfold lkC app und
    simp [n1, n2, n3, zlk, zcol]
  rw [E]
  rw [n1] at h0
  rw [n2] at h1
  rw [n3] at h4
  have hq1 : q < w.heap.size + 1 := by omega
  have hq2 : q ≠ w.heap.size := by omega
  have hq3 : q ≠ w.heap.size + 1 := by omega
  clear n1 n2 n3 E
  unfold lkC
  go_enter Try.func20, Try.ntmps20
  go_wp2_with fail
  go_region_with (go_at_call 25; refine (toggle_any _ _ _).mono ?_; rintro x w' ⟨rfl, rfl⟩)
  all_goals
    go_wp2_with fail
    go_region_with (go_at_call 25; refine (toggle_any _ _ _).mono ?_; rintro x w' ⟨rfl, rfl⟩)
    all_goals
      go_wp2_with fail
      go_region_with (go_at_call 25; refine (toggle_any _ _ _).mono ?_; rintro x w' ⟨rfl, rfl⟩)
      all_goals
        go_wp2
        exact bodyPost_ret (v := .agg #[.bool true, .int .u32 e.fg.r, .int .i64 e.fg.a, .bool l.bg.s, .int .u32 l.bg.r, .int .i64 l.bg.a, .bool (tog e.b l.b), .bool (tog e.i l.i), .bool (tog e.u l.u)]) (by simp [results, Try.results20, go_sem]) rfl ⟨rfl, by go_grown⟩

set_option maxHeartbeats 8000000 in
set_option maxRecDepth 100000 in
theorem apply_ftt (q : Nat) (e : Ent) (l : Lk) (w : World) (hq : q < w.heap.size) (h0 : w.cell? ⟨q, 0, none⟩ = some (.bool e.ni)) (h1 : w.cell? ⟨q, 1, none⟩ = some (.bool e.fg.s)) (h2 : w.cell? ⟨q, 2, none⟩ = some (.int .u32 e.fg.r)) (h3 : w.cell? ⟨q, 3, none⟩ = some (.int .i64 e.fg.a)) (h4 : w.cell? ⟨q, 4, none⟩ = some (.bool e.bg.s)) (h5 : w.cell? ⟨q, 5, none⟩ = some (.int .u32 e.bg.r)) (h6 : w.cell? ⟨q, 6, none⟩ = some (.int .i64 e.bg.a)) (h10 : w.cell? ⟨q, 10, none⟩ = some (.int .i64 e.b)) (h11 : w.cell? ⟨q, 11, none⟩ = some (.int .i64 e.i)) (h12 : w.cell? ⟨q, 12, none⟩ = some (.int .i64 e.u)) (n1 : e.ni = false) (n2 : e.fg.s = true) (n3 : e.bg.s = true) :
    Calls Try.prog 20 #[.pointer (some ⟨q, 0, none⟩), .agg (lkC l)] w fun x w' => x = .returned (.agg (lkC (app e l))) ∧ Below w.heap.size w w' := by
  have E : lkC (app e l) = #[.bool true, .int .u32 e.fg.r, .int .i64 e.fg.a, .bool true, .int .u32 e.bg.r, .int .i64 e.bg.a, .bool (tog e.b l.b), .bool (tog e.i l.i), .bool (tog e.u l.u)] := by
    unfold lkC app und
    simp [n1, n2, n3, zlk, zcol]
  rw [E]
  rw [n1] at h0
  rw [n2] at h1
  rw [n3] at h4
  have hq1 : q < w.heap.size + 1 := by omega
  have hq2 : q ≠ w.heap.size := by omega
  have hq3 : q ≠ w.heap.size + 1 := by omega
  clear n1 n2 n3 E
  unfold lkC
  go_enter Try.func20, Try.ntmps20
  go_wp2_with fail
  go_region_with (go_at_call 25; refine (toggle_any _ _ _).mono ?_; rintro x w' ⟨rfl, rfl⟩)
  all_goals
    go_wp2_with fail
    go_region_with (go_at_call 25; refine (toggle_any _ _ _).mono ?_; rintro x w' ⟨rfl, rfl⟩)
    all_goals
      go_wp2_with fail
      go_region_with (go_at_call 25; refine (toggle_any _ _ _).mono ?_; rintro x w' ⟨rfl, rfl⟩)
      all_goals
        go_wp2
        exact bodyPost_ret (v := .agg #[.bool true, .int .u32 e.fg.r, .int .i64 e.fg.a, .bool true, .int .u32 e.bg.r, .int .i64 e.bg.a, .bool (tog e.b l.b), .bool (tog e.i l.i), .bool (tog e.u l.u)]) (by simp [results, Try.results20, go_sem]) rfl ⟨rfl, by go_grown⟩

end Go.Proofs.Qxb6615783a
