/-
  Seat b6615783a: contracts of the small functions.
-/
import Derived.Test.Qxb6615783aRows
import Derived.WalkKit
import Derived.WalkSpells
import Derived.WalkLawsBesides
import Derived.Deep.QuietTactic
import Derived.BigQuiet
import Derived.Deep.RegionHeld3
import Derived.Handy
namespace Go.Proofs.Qxb6615783a
open Go.RowKit

set_option maxHeartbeats 1000000 in
theorem toZZColour_any (s : Bool) (r a : Int) (w : World) :
    Calls Try.prog 22 #[.agg #[.bool s, .int .u32 r, .int .i64 a]] w fun e w' => e = .returned (.agg #[.bool s, .int .u32 r, .int .i64 a]) ∧ w' = (w.alloc (.cells #[.bool s, .int .u32 r, .int .i64 a] 24)).alloc (.cells #[.bool s, .int .u32 r, .int .i64 a] 39) := by
  go_enter Try.func22, Try.ntmps22
  go_wp2
  exact bodyPost_ret (v := .agg #[.bool s, .int .u32 r, .int .i64 a]) (by simp [results, Try.results22, go_sem]) rfl ⟨rfl, rfl⟩

set_option maxHeartbeats 1000000 in
theorem zzToColour_any (s : Bool) (r a : Int) (w : World) :
    Calls Try.prog 23 #[.agg #[.bool s, .int .u32 r, .int .i64 a]] w fun e w' => e = .returned (.agg #[.bool s, .int .u32 r, .int .i64 a]) ∧ w' = (w.alloc (.cells #[.bool s, .int .u32 r, .int .i64 a] 39)).alloc (.cells #[.bool s, .int .u32 r, .int .i64 a] 51) := by
  go_enter Try.func23, Try.ntmps23
  go_wp2
  exact bodyPost_ret (v := .agg #[.bool s, .int .u32 r, .int .i64 a]) (by simp [results, Try.results23, go_sem]) rfl ⟨rfl, rfl⟩

set_option maxHeartbeats 1000000 in
theorem zzFromColour_any (s : Bool) (r a : Int) (w : World) :
    Calls Try.prog 24 #[.agg #[.bool s, .int .u32 r, .int .i64 a]] w fun e w' => e = .returned (.agg #[.bool s, .int .u32 r, .int .i64 a]) ∧ w' = (w.alloc (.cells #[.bool s, .int .u32 r, .int .i64 a] 51)).alloc (.cells #[.bool s, .int .u32 r, .int .i64 a] 39) := by
  go_enter Try.func24, Try.ntmps24
  go_wp2
  exact bodyPost_ret (v := .agg #[.bool s, .int .u32 r, .int .i64 a]) (by simp [results, Try.results24, go_sem]) rfl ⟨rfl, rfl⟩

set_option maxHeartbeats 1000000 in
theorem fromZZColour_any (s : Bool) (r a : Int) (w : World) :
    Calls Try.prog 17 #[.agg #[.bool s, .int .u32 r, .int .i64 a]] w fun e w' => e = .returned (.agg #[.bool s, .int .u32 r, .int .i64 a]) ∧ w' = (w.alloc (.cells #[.bool s, .int .u32 r, .int .i64 a] 39)).alloc (.cells #[.bool s, .int .u32 r, .int .i64 a] 24) := by
  go_enter Try.func17, Try.ntmps17
  go_wp2
  exact bodyPost_ret (v := .agg #[.bool s, .int .u32 r, .int .i64 a]) (by simp [results, Try.results17, go_sem]) rfl ⟨rfl, rfl⟩


/-- A colour, an entry, a look: plain. -/
structure Col where
  s : Bool
  r : Int
  a : Int
structure Ent where
  ni : Bool
  fg : Col
  bg : Col
  bo : Col
  b : Int
  i : Int
  u : Int
structure Lk where
  fg : Col
  bg : Col
  b : Bool
  i : Bool
  u : Bool
def entC (e : Ent) : Array Value := #[.bool e.ni, .bool e.fg.s, .int .u32 e.fg.r, .int .i64 e.fg.a, .bool e.bg.s, .int .u32 e.bg.r, .int .i64 e.bg.a, .bool e.bo.s, .int .u32 e.bo.r, .int .i64 e.bo.a, .int .i64 e.b, .int .i64 e.i, .int .i64 e.u]
def lkC (l : Lk) : Array Value := #[.bool l.fg.s, .int .u32 l.fg.r, .int .i64 l.fg.a, .bool l.bg.s, .int .u32 l.bg.r, .int .i64 l.bg.a, .bool l.b, .bool l.i, .bool l.u]

set_option maxHeartbeats 4000000 in
set_option maxRecDepth 100000 in
theorem toZZEntry_any (e : Ent) (w : World) :
    Calls Try.prog 14 #[.agg (entC e)] w fun x w' => x = .returned (.agg (entC e)) ∧ Below w.heap.size w w' := by
  unfold entC
  go_enter Try.func14, Try.ntmps14
  go_wp2_with fail
  go_region_held3 (fun w' => w'.cell? ⟨w.heap.size, 0, none⟩ = some (.bool e.ni) ∧ w'.cell? ⟨w.heap.size, 1, none⟩ = some (.bool e.fg.s) ∧ w'.cell? ⟨w.heap.size, 2, none⟩ = some (.int .u32 e.fg.r) ∧ w'.cell? ⟨w.heap.size, 3, none⟩ = some (.int .i64 e.fg.a) ∧ w'.cell? ⟨w.heap.size, 4, none⟩ = some (.bool e.bg.s) ∧ w'.cell? ⟨w.heap.size, 5, none⟩ = some (.int .u32 e.bg.r) ∧ w'.cell? ⟨w.heap.size, 6, none⟩ = some (.int .i64 e.bg.a) ∧ w'.cell? ⟨w.heap.size, 7, none⟩ = some (.bool e.bo.s) ∧ w'.cell? ⟨w.heap.size, 8, none⟩ = some (.int .u32 e.bo.r) ∧ w'.cell? ⟨w.heap.size, 9, none⟩ = some (.int .i64 e.bo.a) ∧ w'.cell? ⟨w.heap.size, 10, none⟩ = some (.int .i64 e.b) ∧ w'.cell? ⟨w.heap.size, 11, none⟩ = some (.int .i64 e.i) ∧ w'.cell? ⟨w.heap.size, 12, none⟩ = some (.int .i64 e.u)) ((refine ⟨?_, ?_, ?_, ?_, ?_, ?_, ?_, ?_, ?_, ?_, ?_, ?_, ?_⟩ <;> simp [go_sem])) ((go_at_call 22; refine (toZZColour_any _ _ _ _).mono ?_; rintro x w' ⟨rfl, rfl⟩))
  go_wp2
  exact bodyPost_ret (v := .agg #[.bool e.ni, .bool e.fg.s, .int .u32 e.fg.r, .int .i64 e.fg.a, .bool e.bg.s, .int .u32 e.bg.r, .int .i64 e.bg.a, .bool e.bo.s, .int .u32 e.bo.r, .int .i64 e.bo.a, .int .i64 e.b, .int .i64 e.i, .int .i64 e.u]) (by simp [results, Try.results14, go_sem]) rfl ⟨rfl, by go_grown⟩

set_option maxHeartbeats 4000000 in
set_option maxRecDepth 100000 in
theorem zzToEntry_any (e : Ent) (w : World) :
    Calls Try.prog 18 #[.agg (entC e)] w fun x w' => x = .returned (.agg (entC e)) ∧ Below w.heap.size w w' := by
  unfold entC
  go_enter Try.func18, Try.ntmps18
  go_wp2_with fail
  go_region_held3 (fun w' => w'.cell? ⟨w.heap.size, 0, none⟩ = some (.bool e.ni) ∧ w'.cell? ⟨w.heap.size, 1, none⟩ = some (.bool e.fg.s) ∧ w'.cell? ⟨w.heap.size, 2, none⟩ = some (.int .u32 e.fg.r) ∧ w'.cell? ⟨w.heap.size, 3, none⟩ = some (.int .i64 e.fg.a) ∧ w'.cell? ⟨w.heap.size, 4, none⟩ = some (.bool e.bg.s) ∧ w'.cell? ⟨w.heap.size, 5, none⟩ = some (.int .u32 e.bg.r) ∧ w'.cell? ⟨w.heap.size, 6, none⟩ = some (.int .i64 e.bg.a) ∧ w'.cell? ⟨w.heap.size, 7, none⟩ = some (.bool e.bo.s) ∧ w'.cell? ⟨w.heap.size, 8, none⟩ = some (.int .u32 e.bo.r) ∧ w'.cell? ⟨w.heap.size, 9, none⟩ = some (.int .i64 e.bo.a) ∧ w'.cell? ⟨w.heap.size, 10, none⟩ = some (.int .i64 e.b) ∧ w'.cell? ⟨w.heap.size, 11, none⟩ = some (.int .i64 e.i) ∧ w'.cell? ⟨w.heap.size, 12, none⟩ = some (.int .i64 e.u)) ((refine ⟨?_, ?_, ?_, ?_, ?_, ?_, ?_, ?_, ?_, ?_, ?_, ?_, ?_⟩ <;> simp [go_sem])) ((go_at_call 23; refine (zzToColour_any _ _ _ _).mono ?_; rintro x w' ⟨rfl, rfl⟩))
  go_wp2
  exact bodyPost_ret (v := .agg #[.bool e.ni, .bool e.fg.s, .int .u32 e.fg.r, .int .i64 e.fg.a, .bool e.bg.s, .int .u32 e.bg.r, .int .i64 e.bg.a, .bool e.bo.s, .int .u32 e.bo.r, .int .i64 e.bo.a, .int .i64 e.b, .int .i64 e.i, .int .i64 e.u]) (by simp [results, Try.results18, go_sem]) rfl ⟨rfl, by go_grown⟩

set_option maxHeartbeats 4000000 in
set_option maxRecDepth 100000 in
theorem toZZLook_any (l : Lk) (w : World) :
    Calls Try.prog 15 #[.agg (lkC l)] w fun x w' => x = .returned (.agg (lkC l)) ∧ Below w.heap.size w w' := by
  unfold lkC
  go_enter Try.func15, Try.ntmps15
  go_wp2_with fail
  go_region_held3 (fun w' => w'.cell? ⟨w.heap.size, 0, none⟩ = some (.bool l.fg.s) ∧ w'.cell? ⟨w.heap.size, 1, none⟩ = some (.int .u32 l.fg.r) ∧ w'.cell? ⟨w.heap.size, 2, none⟩ = some (.int .i64 l.fg.a) ∧ w'.cell? ⟨w.heap.size, 3, none⟩ = some (.bool l.bg.s) ∧ w'.cell? ⟨w.heap.size, 4, none⟩ = some (.int .u32 l.bg.r) ∧ w'.cell? ⟨w.heap.size, 5, none⟩ = some (.int .i64 l.bg.a) ∧ w'.cell? ⟨w.heap.size, 6, none⟩ = some (.bool l.b) ∧ w'.cell? ⟨w.heap.size, 7, none⟩ = some (.bool l.i) ∧ w'.cell? ⟨w.heap.size, 8, none⟩ = some (.bool l.u)) ((refine ⟨?_, ?_, ?_, ?_, ?_, ?_, ?_, ?_, ?_⟩ <;> simp [go_sem])) ((go_at_call 22; refine (toZZColour_any _ _ _ _).mono ?_; rintro x w' ⟨rfl, rfl⟩))
  go_wp2
  exact bodyPost_ret (v := .agg #[.bool l.fg.s, .int .u32 l.fg.r, .int .i64 l.fg.a, .bool l.bg.s, .int .u32 l.bg.r, .int .i64 l.bg.a, .bool l.b, .bool l.i, .bool l.u]) (by simp [results, Try.results15, go_sem]) rfl ⟨rfl, by go_grown⟩

set_option maxHeartbeats 4000000 in
set_option maxRecDepth 100000 in
theorem zzToLook_any (l : Lk) (w : World) :
    Calls Try.prog 21 #[.agg (lkC l)] w fun x w' => x = .returned (.agg (lkC l)) ∧ Below w.heap.size w w' := by
  unfold lkC
  go_enter Try.func21, Try.ntmps21
  go_wp2_with fail
  go_region_held3 (fun w' => w'.cell? ⟨w.heap.size, 0, none⟩ = some (.bool l.fg.s) ∧ w'.cell? ⟨w.heap.size, 1, none⟩ = some (.int .u32 l.fg.r) ∧ w'.cell? ⟨w.heap.size, 2, none⟩ = some (.int .i64 l.fg.a) ∧ w'.cell? ⟨w.heap.size, 3, none⟩ = some (.bool l.bg.s) ∧ w'.cell? ⟨w.heap.size, 4, none⟩ = some (.int .u32 l.bg.r) ∧ w'.cell? ⟨w.heap.size, 5, none⟩ = some (.int .i64 l.bg.a) ∧ w'.cell? ⟨w.heap.size, 6, none⟩ = some (.bool l.b) ∧ w'.cell? ⟨w.heap.size, 7, none⟩ = some (.bool l.i) ∧ w'.cell? ⟨w.heap.size, 8, none⟩ = some (.bool l.u)) ((refine ⟨?_, ?_, ?_, ?_, ?_, ?_, ?_, ?_, ?_⟩ <;> simp [go_sem])) ((go_at_call 23; refine (zzToColour_any _ _ _ _).mono ?_; rintro x w' ⟨rfl, rfl⟩))
  go_wp2
  exact bodyPost_ret (v := .agg #[.bool l.fg.s, .int .u32 l.fg.r, .int .i64 l.fg.a, .bool l.bg.s, .int .u32 l.bg.r, .int .i64 l.bg.a, .bool l.b, .bool l.i, .bool l.u]) (by simp [results, Try.results21, go_sem]) rfl ⟨rfl, by go_grown⟩

set_option maxHeartbeats 4000000 in
set_option maxRecDepth 100000 in
theorem zzFromLook_any (l : Lk) (w : World) :
    Calls Try.prog 19 #[.agg (lkC l)] w fun x w' => x = .returned (.agg (lkC l)) ∧ Below w.heap.size w w' := by
  unfold lkC
  go_enter Try.func19, Try.ntmps19
  go_wp2_with fail
  go_region_held3 (fun w' => w'.cell? ⟨w.heap.size, 0, none⟩ = some (.bool l.fg.s) ∧ w'.cell? ⟨w.heap.size, 1, none⟩ = some (.int .u32 l.fg.r) ∧ w'.cell? ⟨w.heap.size, 2, none⟩ = some (.int .i64 l.fg.a) ∧ w'.cell? ⟨w.heap.size, 3, none⟩ = some (.bool l.bg.s) ∧ w'.cell? ⟨w.heap.size, 4, none⟩ = some (.int .u32 l.bg.r) ∧ w'.cell? ⟨w.heap.size, 5, none⟩ = some (.int .i64 l.bg.a) ∧ w'.cell? ⟨w.heap.size, 6, none⟩ = some (.bool l.b) ∧ w'.cell? ⟨w.heap.size, 7, none⟩ = some (.bool l.i) ∧ w'.cell? ⟨w.heap.size, 8, none⟩ = some (.bool l.u)) ((refine ⟨?_, ?_, ?_, ?_, ?_, ?_, ?_, ?_, ?_⟩ <;> simp [go_sem])) ((go_at_call 24; refine (zzFromColour_any _ _ _ _).mono ?_; rintro x w' ⟨rfl, rfl⟩))
  go_wp2
  exact bodyPost_ret (v := .agg #[.bool l.fg.s, .int .u32 l.fg.r, .int .i64 l.fg.a, .bool l.bg.s, .int .u32 l.bg.r, .int .i64 l.bg.a, .bool l.b, .bool l.i, .bool l.u]) (by simp [results, Try.results19, go_sem]) rfl ⟨rfl, by go_grown⟩

set_option maxHeartbeats 4000000 in
set_option maxRecDepth 100000 in
theorem fromZZLook_any (l : Lk) (w : World) :
    Calls Try.prog 12 #[.agg (lkC l)] w fun x w' => x = .returned (.agg (lkC l)) ∧ Below w.heap.size w w' := by
  unfold lkC
  go_enter Try.func12, Try.ntmps12
  go_wp2_with fail
  go_region_held3 (fun w' => w'.cell? ⟨w.heap.size, 0, none⟩ = some (.bool l.fg.s) ∧ w'.cell? ⟨w.heap.size, 1, none⟩ = some (.int .u32 l.fg.r) ∧ w'.cell? ⟨w.heap.size, 2, none⟩ = some (.int .i64 l.fg.a) ∧ w'.cell? ⟨w.heap.size, 3, none⟩ = some (.bool l.bg.s) ∧ w'.cell? ⟨w.heap.size, 4, none⟩ = some (.int .u32 l.bg.r) ∧ w'.cell? ⟨w.heap.size, 5, none⟩ = some (.int .i64 l.bg.a) ∧ w'.cell? ⟨w.heap.size, 6, none⟩ = some (.bool l.b) ∧ w'.cell? ⟨w.heap.size, 7, none⟩ = some (.bool l.i) ∧ w'.cell? ⟨w.heap.size, 8, none⟩ = some (.bool l.u)) ((refine ⟨?_, ?_, ?_, ?_, ?_, ?_, ?_, ?_, ?_⟩ <;> simp [go_sem])) ((go_at_call 17; refine (fromZZColour_any _ _ _ _).mono ?_; rintro x w' ⟨rfl, rfl⟩))
  go_wp2
  exact bodyPost_ret (v := .agg #[.bool l.fg.s, .int .u32 l.fg.r, .int .i64 l.fg.a, .bool l.bg.s, .int .u32 l.bg.r, .int .i64 l.bg.a, .bool l.b, .bool l.i, .bool l.u]) (by simp [results, Try.results12, go_sem]) rfl ⟨rfl, by go_grown⟩

def tog (g : Int) (on : Bool) : Bool := if g = 1 then true else if g = 2 then false else on

set_option maxHeartbeats 1000000 in
theorem toggle_any (g : Int) (on : Bool) (w : World) :
    Calls Try.prog 25 #[.int .i64 g, .bool on] w fun x w' => x = .returned (.bool (tog g on)) ∧ w = w' := by
  by_cases h1 : g = 1
  · subst h1
    have e : tog 1 on = true := rfl
    rw [e]; clear e
    go_enter Try.func25, Try.ntmps25
    go_wp2
    go_ret
    exact ⟨rfl, rfl⟩
  · by_cases h2 : g = 2
    · subst h2
      have e : tog 2 on = false := rfl
      rw [e]; clear e
      go_enter Try.func25, Try.ntmps25
      go_wp2
      go_ret
      exact ⟨rfl, rfl⟩
    · have e : tog g on = on := by unfold tog; rw [if_neg h1, if_neg h2]
      rw [e]; clear e
      have h1' : (g == 1) = false := by simpa using h1
      have h2' : (g == 2) = false := by simpa using h2
      clear h1 h2
      go_enter Try.func25, Try.ntmps25
      go_wp2
      go_ret
      exact ⟨rfl, rfl⟩
end Go.Proofs.Qxb6615783a
