/-
  Seat b6615783a: the tests on colours, toggles, entries, looks.
-/
import Derived.Test.Qxb6615783aWalkC
import Derived.Deep.RegionWith
namespace Go.Proofs.Qxb6615783a
open Go.RowKit

/-- A call that answers some bool, makes memory at most, and where it answers true tells 'P'. -/
def SB (P : Prop) (w : World) (x : Ending) (w' : World) : Prop := ∃ b : Bool, x = .returned (.bool b) ∧ Below w.heap.size w w' ∧ (b = true → P)
theorem sb_no {P : Prop} {w w' : World} (h : Below w.heap.size w w') : SB P w (.returned (.bool false)) w' := ⟨false, rfl, h, fun h => absurd h Bool.false_ne_true⟩
theorem sb_any {w w' : World} {b : Bool} (h : Below w.heap.size w w') : SB True w (.returned (.bool b)) w' := ⟨b, rfl, h, fun _ => trivial⟩
/-- some uint32. -/
def SU (w : World) (x : Ending) (w' : World) : Prop := ∃ r : Int, x = .returned (.int .u32 r) ∧ w = w'

set_option maxHeartbeats 4000000 in
theorem ansiRGB_any (a : Int) (w : World) : Calls Try.prog 16 #[.int .i64 a] w (SU w) := by
  go_enter Try.func16, Try.ntmps16
  go_wp2
  all_goals (go_ret; exact ⟨_, rfl, rfl⟩)

set_option maxHeartbeats 2000000 in
theorem colourOK_any (s : Bool) (r a : Int) (w : World) : Calls Try.prog 10 #[.agg #[.bool s, .int .u32 r, .int .i64 a]] w (SB True w) := by
  go_enter Try.func10, Try.ntmps10
  go_wp2_with fail
  all_goals first
    | (go_ret; exact sb_any (by go_grown))
    | (go_region_with (go_at_call 16; refine (ansiRGB_any _ _).mono ?_; rintro x w' ⟨r2, rfl, rfl⟩)
       all_goals (go_wp2; go_ret; exact sb_any (by go_grown)))

set_option maxHeartbeats 2000000 in
theorem toggleOK_any (g : Int) (w : World) : Calls Try.prog 11 #[.int .i64 g] w fun x w' => x = .returned (.bool (decide (0 ≤ g ∧ g ≤ 2))) ∧ w = w' := by
  by_cases h1 : 0 ≤ g
  · by_cases h2 : g ≤ 2
    · have e : decide (0 ≤ g ∧ g ≤ 2) = true := by simp [h1, h2]
      rw [e]; clear e
      go_enter Try.func11, Try.ntmps11
      go_wp2
      go_ret
      exact ⟨rfl, rfl⟩
    · have e : decide (0 ≤ g ∧ g ≤ 2) = false := by simp [h2]
      rw [e]; clear e
      go_enter Try.func11, Try.ntmps11
      go_wp2
      go_ret
      exact ⟨rfl, rfl⟩
  · have e : decide (0 ≤ g ∧ g ≤ 2) = false := by simp [h1]
    rw [e]; clear e
    go_enter Try.func11, Try.ntmps11
    go_wp2
    go_ret
    exact ⟨rfl, rfl⟩

set_option maxHeartbeats 2000000 in
theorem lookOK_any (l : Lk) (w : World) : Calls Try.prog 6 #[.agg (lkC l)] w (SB True w) := by
  unfold lkC
  go_enter Try.func6, Try.ntmps6
  go_wp2_with fail
  refine (colourOK_any _ _ _ _).mono ?_
  rintro x w1 ⟨b, rfl, hb1, _⟩
  have B1 : Below w.heap.size w w1 := Below.trans (by go_grown) (hb1.mono (by simp only [World.size_alloc]; omega))
  cases b with
  | false =>
    go_wp2
    go_ret
    exact sb_any B1
  | true =>
    have z1 : w.heap.size < w1.heap.size := by have := hb1.size; simp only [World.size_alloc] at this; omega
    obtain ⟨hc1, hf1⟩ := bcell hb1
    go_wp2_with fail
    refine (colourOK_any _ _ _ _).mono ?_
    rintro x w2 ⟨b, rfl, hb2, _⟩
    go_wp2
    go_ret
    exact sb_any (B1.trans (hb2.mono B1.size))

set_option maxHeartbeats 4000000 in
theorem entryOK_any (e : Ent) (w : World) : Calls Try.prog 5 #[.agg (entC e)] w (SB ((0 ≤ e.b ∧ e.b ≤ 2) ∧ (0 ≤ e.i ∧ e.i ≤ 2) ∧ (0 ≤ e.u ∧ e.u ≤ 2)) w) := by
  unfold entC
  go_enter Try.func5, Try.ntmps5
  go_wp2_with fail
  refine (colourOK_any _ _ _ _).mono ?_
  rintro x w1 ⟨b, rfl, hb1, _⟩
  have B1 : Below w.heap.size w w1 := Below.trans (by go_grown) (hb1.mono (by simp only [World.size_alloc]; omega))
  have z1 : w.heap.size < w1.heap.size := by have := hb1.size; simp only [World.size_alloc] at this; omega
  obtain ⟨hc1, hf1⟩ := bcell hb1
  cases b with
  | false =>
    go_wp2
    go_ret
    exact sb_no B1
  | true =>
  clear hb1
  go_wp2_with fail
  refine (colourOK_any _ _ _ _).mono ?_
  rintro x w2 ⟨b, rfl, hb2, _⟩
  have B2 := B1.trans (hb2.mono B1.size)
  have z2 : w.heap.size < w2.heap.size := by have := hb2.size; omega
  obtain ⟨hc2, hf2⟩ := bcell hb2
  cases b with
  | false =>
    go_wp2
    go_ret
    exact sb_no B2
  | true =>
  clear hb2
  go_wp2_with fail
  refine (colourOK_any _ _ _ _).mono ?_
  rintro x w3 ⟨b, rfl, hb3, _⟩
  have B3 := B2.trans (hb3.mono B2.size)
  have z3 : w.heap.size < w3.heap.size := by have := hb3.size; omega
  obtain ⟨hc3, hf3⟩ := bcell hb3
  cases b with
  | false =>
    go_wp2
    go_ret
    exact sb_no B3
  | true =>
  clear hb3
  go_wp2_with fail
  refine (toggleOK_any _ _).mono ?_
  rintro x w' ⟨rfl, rfl⟩
  cases g1 : decide (0 ≤ e.b ∧ e.b ≤ 2) with
  | false =>
    go_wp2
    go_ret
    exact sb_no B3
  | true =>
  go_wp2_with fail
  refine (toggleOK_any _ _).mono ?_
  rintro x w' ⟨rfl, rfl⟩
  cases g2 : decide (0 ≤ e.i ∧ e.i ≤ 2) with
  | false =>
    go_wp2
    go_ret
    exact sb_no B3
  | true =>
  go_wp2_with fail
  refine (toggleOK_any _ _).mono ?_
  rintro x w' ⟨rfl, rfl⟩
  cases g3 : decide (0 ≤ e.u ∧ e.u ≤ 2) with
  | false =>
    go_wp2
    go_ret
    exact sb_no B3
  | true =>
  have G1 : Hid (0 ≤ e.b ∧ e.b ≤ 2) := by show 0 ≤ e.b ∧ e.b ≤ 2; exact of_decide_eq_true g1
  have G2 : Hid (0 ≤ e.i ∧ e.i ≤ 2) := by show 0 ≤ e.i ∧ e.i ≤ 2; exact of_decide_eq_true g2
  have G3 : Hid (0 ≤ e.u ∧ e.u ≤ 2) := by show 0 ≤ e.u ∧ e.u ≤ 2; exact of_decide_eq_true g3
  clear g1 g2 g3
  go_wp2
  go_ret
  exact ⟨true, rfl, B3, fun _ => ⟨G1.out, G2.out, G3.out⟩⟩
end Go.Proofs.Qxb6615783a
