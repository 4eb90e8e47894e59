/-
  Seat b6615783a: over, toggleHolds.
-/
import Derived.Test.Qxb6615783aPlain
import Derived.Deep.DeepCutAuto
namespace Go.Proofs.Qxb6615783a
open Go.RowKit

def pick (s : Bool) (a b : Col) : Col := if s then a else b
def pickI (a b : Int) : Int := if a = 0 then b else a
/-- over. -/
def ov (e f : Ent) : Ent := if e.ni then e else ⟨f.ni, pick e.fg.s e.fg f.fg, pick e.bg.s e.bg f.bg, pick e.bo.s e.bo f.bo, pickI e.b f.b, pickI e.i f.i, pickI e.u f.u⟩

theorem pick_t {s : Bool} (h : s = true) (a b : Col) : pick s a b = a := by unfold pick; rw [if_pos h]
theorem pick_f {s : Bool} (h : s = false) (a b : Col) : pick s a b = b := by unfold pick; rw [h]; rfl
theorem pickI_t {a : Int} (h : (a == 0) = true) (b : Int) : pickI a b = b := by unfold pickI; rw [if_pos (by simpa using h)]
theorem pickI_f {a : Int} (h : (a == 0) = false) (b : Int) : pickI a b = a := by unfold pickI; rw [if_neg (by simpa using h)]

set_option maxHeartbeats 2000000 in
set_option maxRecDepth 100000 in
theorem over_ni (e f : Ent) (w : World) (h : e.ni = true) :
    Calls Try.prog 8 #[.agg (entC e), .agg (entC f)] w fun x w' => x = .returned (.agg (entC (ov e f))) ∧ Below w.heap.size w w' := by
  have E : ov e f = e := by unfold ov; rw [if_pos h]
  rw [E]
  clear E
  unfold entC
  go_enter Try.func8, Try.ntmps8
  go_wp2
  exact bodyPost_ret (v := .agg #[.bool e.ni, .bool e.fg.s, .int .u32 e.fg.r, .int .i64 e.fg.a, .bool e.bg.s, .int .u32 e.bg.r, .int .i64 e.bg.a, .bool e.bo.s, .int .u32 e.bo.r, .int .i64 e.bo.a, .int .i64 e.b, .int .i64 e.i, .int .i64 e.u]) (by simp [results, Try.results8, go_sem, h]) rfl ⟨by rw [h], by go_grown⟩

set_option maxHeartbeats 4000000 in
set_option maxRecDepth 100000 in
theorem over_go (e f : Ent) (w : World) (h : e.ni = false) :
    Calls Try.prog 8 #[.agg (entC e), .agg (entC f)] w fun x w' => x = .returned (.agg (entC (ov e f))) ∧ Below w.heap.size w w' := by
  have E : ov e f = ⟨f.ni, pick e.fg.s e.fg f.fg, pick e.bg.s e.bg f.bg, pick e.bo.s e.bo f.bo, pickI e.b f.b, pickI e.i f.i, pickI e.u f.u⟩ := by unfold ov; rw [h]; rfl
  rw [E]
  clear E
  unfold entC
  rw [h]
  clear h
  go_enter Try.func8, Try.ntmps8
  go_upto_if 16 with fail
  go_cut [0, 1] (fun _ _ wx => wx = (((w.alloc (.cells #[.bool false, .bool e.fg.s, .int .u32 e.fg.r, .int .i64 e.fg.a, .bool e.bg.s, .int .u32 e.bg.r, .int .i64 e.bg.a, .bool e.bo.s, .int .u32 e.bo.r, .int .i64 e.bo.a, .int .i64 e.b, .int .i64 e.i, .int .i64 e.u] 26)).alloc (.cells #[.bool f.ni, .bool f.fg.s, .int .u32 f.fg.r, .int .i64 f.fg.a, .bool f.bg.s, .int .u32 f.bg.r, .int .i64 f.bg.a, .bool f.bo.s, .int .u32 f.bo.r, .int .i64 f.bo.a, .int .i64 f.b, .int .i64 f.i, .int .i64 f.u] 26)).alloc (.cells #[.bool false, .bool false, .int .u32 0, .int .i64 0, .bool false, .int .u32 0, .int .i64 0, .bool false, .int .u32 0, .int .i64 0, .int .i64 0, .int .i64 0, .int .i64 0] 26)).alloc (.cells #[.bool f.ni, .bool (pick e.fg.s e.fg f.fg).s, .int .u32 (pick e.fg.s e.fg f.fg).r, .int .i64 (pick e.fg.s e.fg f.fg).a, .bool e.bg.s, .int .u32 e.bg.r, .int .i64 e.bg.a, .bool e.bo.s, .int .u32 e.bo.r, .int .i64 e.bo.a, .int .i64 e.b, .int .i64 e.i, .int .i64 e.u] 26))
  case first =>
    go_wp2_with fail
    · go_meet
      rw [pick_f (s := e.fg.s) (by simpa using ‹(!e.fg.s) = true›)]
    · go_meet
      rw [pick_t (s := e.fg.s) (by simpa using ‹(!e.fg.s) = false›)]
  case rest =>
  rename World => x0
  obtain rfl := hcut
  go_upto_if 23 with fail
  go_cut [0, 1] (fun _ _ wx => wx = (((w.alloc (.cells #[.bool false, .bool e.fg.s, .int .u32 e.fg.r, .int .i64 e.fg.a, .bool e.bg.s, .int .u32 e.bg.r, .int .i64 e.bg.a, .bool e.bo.s, .int .u32 e.bo.r, .int .i64 e.bo.a, .int .i64 e.b, .int .i64 e.i, .int .i64 e.u] 26)).alloc (.cells #[.bool f.ni, .bool f.fg.s, .int .u32 f.fg.r, .int .i64 f.fg.a, .bool f.bg.s, .int .u32 f.bg.r, .int .i64 f.bg.a, .bool f.bo.s, .int .u32 f.bo.r, .int .i64 f.bo.a, .int .i64 f.b, .int .i64 f.i, .int .i64 f.u] 26)).alloc (.cells #[.bool false, .bool false, .int .u32 0, .int .i64 0, .bool false, .int .u32 0, .int .i64 0, .bool false, .int .u32 0, .int .i64 0, .int .i64 0, .int .i64 0, .int .i64 0] 26)).alloc (.cells #[.bool f.ni, .bool (pick e.fg.s e.fg f.fg).s, .int .u32 (pick e.fg.s e.fg f.fg).r, .int .i64 (pick e.fg.s e.fg f.fg).a, .bool (pick e.bg.s e.bg f.bg).s, .int .u32 (pick e.bg.s e.bg f.bg).r, .int .i64 (pick e.bg.s e.bg f.bg).a, .bool e.bo.s, .int .u32 e.bo.r, .int .i64 e.bo.a, .int .i64 e.b, .int .i64 e.i, .int .i64 e.u] 26))
  case first =>
    go_wp2_with fail
    · go_meet
      rw [pick_f (s := e.bg.s) (by simpa using ‹(!e.bg.s) = true›)]
    · go_meet
      rw [pick_t (s := e.bg.s) (by simpa using ‹(!e.bg.s) = false›)]
  case rest =>
  rename World => x1
  obtain rfl := hcut
  go_upto_if 30 with fail
  go_cut [0, 1] (fun _ _ wx => wx = (((w.alloc (.cells #[.bool false, .bool e.fg.s, .int .u32 e.fg.r, .int .i64 e.fg.a, .bool e.bg.s, .int .u32 e.bg.r, .int .i64 e.bg.a, .bool e.bo.s, .int .u32 e.bo.r, .int .i64 e.bo.a, .int .i64 e.b, .int .i64 e.i, .int .i64 e.u] 26)).alloc (.cells #[.bool f.ni, .bool f.fg.s, .int .u32 f.fg.r, .int .i64 f.fg.a, .bool f.bg.s, .int .u32 f.bg.r, .int .i64 f.bg.a, .bool f.bo.s, .int .u32 f.bo.r, .int .i64 f.bo.a, .int .i64 f.b, .int .i64 f.i, .int .i64 f.u] 26)).alloc (.cells #[.bool false, .bool false, .int .u32 0, .int .i64 0, .bool false, .int .u32 0, .int .i64 0, .bool false, .int .u32 0, .int .i64 0, .int .i64 0, .int .i64 0, .int .i64 0] 26)).alloc (.cells #[.bool f.ni, .bool (pick e.fg.s e.fg f.fg).s, .int .u32 (pick e.fg.s e.fg f.fg).r, .int .i64 (pick e.fg.s e.fg f.fg).a, .bool (pick e.bg.s e.bg f.bg).s, .int .u32 (pick e.bg.s e.bg f.bg).r, .int .i64 (pick e.bg.s e.bg f.bg).a, .bool (pick e.bo.s e.bo f.bo).s, .int .u32 (pick e.bo.s e.bo f.bo).r, .int .i64 (pick e.bo.s e.bo f.bo).a, .int .i64 e.b, .int .i64 e.i, .int .i64 e.u] 26))
  case first =>
    go_wp2_with fail
    · go_meet
      rw [pick_f (s := e.bo.s) (by simpa using ‹(!e.bo.s) = true›)]
    · go_meet
      rw [pick_t (s := e.bo.s) (by simpa using ‹(!e.bo.s) = false›)]
  case rest =>
  rename World => x2
  obtain rfl := hcut
  go_upto_if 36 with fail
  go_cut [0, 1] (fun _ _ wx => wx = (((w.alloc (.cells #[.bool false, .bool e.fg.s, .int .u32 e.fg.r, .int .i64 e.fg.a, .bool e.bg.s, .int .u32 e.bg.r, .int .i64 e.bg.a, .bool e.bo.s, .int .u32 e.bo.r, .int .i64 e.bo.a, .int .i64 e.b, .int .i64 e.i, .int .i64 e.u] 26)).alloc (.cells #[.bool f.ni, .bool f.fg.s, .int .u32 f.fg.r, .int .i64 f.fg.a, .bool f.bg.s, .int .u32 f.bg.r, .int .i64 f.bg.a, .bool f.bo.s, .int .u32 f.bo.r, .int .i64 f.bo.a, .int .i64 f.b, .int .i64 f.i, .int .i64 f.u] 26)).alloc (.cells #[.bool false, .bool false, .int .u32 0, .int .i64 0, .bool false, .int .u32 0, .int .i64 0, .bool false, .int .u32 0, .int .i64 0, .int .i64 0, .int .i64 0, .int .i64 0] 26)).alloc (.cells #[.bool f.ni, .bool (pick e.fg.s e.fg f.fg).s, .int .u32 (pick e.fg.s e.fg f.fg).r, .int .i64 (pick e.fg.s e.fg f.fg).a, .bool (pick e.bg.s e.bg f.bg).s, .int .u32 (pick e.bg.s e.bg f.bg).r, .int .i64 (pick e.bg.s e.bg f.bg).a, .bool (pick e.bo.s e.bo f.bo).s, .int .u32 (pick e.bo.s e.bo f.bo).r, .int .i64 (pick e.bo.s e.bo f.bo).a, .int .i64 (pickI e.b f.b), .int .i64 e.i, .int .i64 e.u] 26))
  case first =>
    go_wp2_with fail
    · go_meet
      rw [pickI_t ‹(e.b == 0) = true›]
    · go_meet
      rw [pickI_f ‹(e.b == 0) = false›]
  case rest =>
  rename World => x3
  obtain rfl := hcut
  go_upto_if 42 with fail
  go_cut [0, 1] (fun _ _ wx => wx = (((w.alloc (.cells #[.bool false, .bool e.fg.s, .int .u32 e.fg.r, .int .i64 e.fg.a, .bool e.bg.s, .int .u32 e.bg.r, .int .i64 e.bg.a, .bool e.bo.s, .int .u32 e.bo.r, .int .i64 e.bo.a, .int .i64 e.b, .int .i64 e.i, .int .i64 e.u] 26)).alloc (.cells #[.bool f.ni, .bool f.fg.s, .int .u32 f.fg.r, .int .i64 f.fg.a, .bool f.bg.s, .int .u32 f.bg.r, .int .i64 f.bg.a, .bool f.bo.s, .int .u32 f.bo.r, .int .i64 f.bo.a, .int .i64 f.b, .int .i64 f.i, .int .i64 f.u] 26)).alloc (.cells #[.bool false, .bool false, .int .u32 0, .int .i64 0, .bool false, .int .u32 0, .int .i64 0, .bool false, .int .u32 0, .int .i64 0, .int .i64 0, .int .i64 0, .int .i64 0] 26)).alloc (.cells #[.bool f.ni, .bool (pick e.fg.s e.fg f.fg).s, .int .u32 (pick e.fg.s e.fg f.fg).r, .int .i64 (pick e.fg.s e.fg f.fg).a, .bool (pick e.bg.s e.bg f.bg).s, .int .u32 (pick e.bg.s e.bg f.bg).r, .int .i64 (pick e.bg.s e.bg f.bg).a, .bool (pick e.bo.s e.bo f.bo).s, .int .u32 (pick e.bo.s e.bo f.bo).r, .int .i64 (pick e.bo.s e.bo f.bo).a, .int .i64 (pickI e.b f.b), .int .i64 (pickI e.i f.i), .int .i64 e.u] 26))
  case first =>
    go_wp2_with fail
    · go_meet
      rw [pickI_t ‹(e.i == 0) = true›]
    · go_meet
      rw [pickI_f ‹(e.i == 0) = false›]
  case rest =>
  rename World => x4
  obtain rfl := hcut
  go_upto_if 48 with fail
  go_cut [0, 1] (fun _ _ wx => wx = (((w.alloc (.cells #[.bool false, .bool e.fg.s, .int .u32 e.fg.r, .int .i64 e.fg.a, .bool e.bg.s, .int .u32 e.bg.r, .int .i64 e.bg.a, .bool e.bo.s, .int .u32 e.bo.r, .int .i64 e.bo.a, .int .i64 e.b, .int .i64 e.i, .int .i64 e.u] 26)).alloc (.cells #[.bool f.ni, .bool f.fg.s, .int .u32 f.fg.r, .int .i64 f.fg.a, .bool f.bg.s, .int .u32 f.bg.r, .int .i64 f.bg.a, .bool f.bo.s, .int .u32 f.bo.r, .int .i64 f.bo.a, .int .i64 f.b, .int .i64 f.i, .int .i64 f.u] 26)).alloc (.cells #[.bool false, .bool false, .int .u32 0, .int .i64 0, .bool false, .int .u32 0, .int .i64 0, .bool false, .int .u32 0, .int .i64 0, .int .i64 0, .int .i64 0, .int .i64 0] 26)).alloc (.cells #[.bool f.ni, .bool (pick e.fg.s e.fg f.fg).s, .int .u32 (pick e.fg.s e.fg f.fg).r, .int .i64 (pick e.fg.s e.fg f.fg).a, .bool (pick e.bg.s e.bg f.bg).s, .int .u32 (pick e.bg.s e.bg f.bg).r, .int .i64 (pick e.bg.s e.bg f.bg).a, .bool (pick e.bo.s e.bo f.bo).s, .int .u32 (pick e.bo.s e.bo f.bo).r, .int .i64 (pick e.bo.s e.bo f.bo).a, .int .i64 (pickI e.b f.b), .int .i64 (pickI e.i f.i), .int .i64 (pickI e.u f.u)] 26))
  case first =>
    go_wp2_with fail
    · go_meet
      rw [pickI_t ‹(e.u == 0) = true›]
    · go_meet
      rw [pickI_f ‹(e.u == 0) = false›]
  case rest =>
  rename World => x5
  obtain rfl := hcut
  go_wp2
  exact bodyPost_ret (v := .agg #[.bool f.ni, .bool (pick e.fg.s e.fg f.fg).s, .int .u32 (pick e.fg.s e.fg f.fg).r, .int .i64 (pick e.fg.s e.fg f.fg).a, .bool (pick e.bg.s e.bg f.bg).s, .int .u32 (pick e.bg.s e.bg f.bg).r, .int .i64 (pick e.bg.s e.bg f.bg).a, .bool (pick e.bo.s e.bo f.bo).s, .int .u32 (pick e.bo.s e.bo f.bo).r, .int .i64 (pick e.bo.s e.bo f.bo).a, .int .i64 (pickI e.b f.b), .int .i64 (pickI e.i f.i), .int .i64 (pickI e.u f.u)]) (by simp [results, Try.results8, go_sem]) rfl ⟨rfl, by go_grown⟩

theorem over_any (e f : Ent) (w : World) :
    Calls Try.prog 8 #[.agg (entC e), .agg (entC f)] w fun x w' => x = .returned (.agg (entC (ov e f))) ∧ Below w.heap.size w w' := by
  cases h : e.ni with
  | true => exact over_ni e f w h
  | false => exact over_go e f w h

def holds (g : Int) (v : Bool) : Bool := if g = 1 then v else if g = 2 then !v else true
set_option maxHeartbeats 1000000 in
theorem toggleHolds_any (g : Int) (v : Bool) (w : World) :
    Calls Try.prog 9 #[.int .i64 g, .bool v] w fun x w' => x = .returned (.bool (holds g v)) ∧ w = w' := by
  by_cases h1 : g = 1
  · subst h1
    have e : holds 1 v = v := rfl
    rw [e]; clear e
    go_enter Try.func9, Try.ntmps9
    go_wp2
    go_ret
    exact ⟨rfl, rfl⟩
  · by_cases h2 : g = 2
    · subst h2
      have e : holds 2 v = !v := rfl
      rw [e]; clear e
      go_enter Try.func9, Try.ntmps9
      go_wp2
      go_ret
      exact ⟨rfl, rfl⟩
    · have e : holds g v = true := by unfold holds; rw [if_neg h1, if_neg h2]
      rw [e]; clear e
      have h1' : (g == 1) = false := by simpa using h1
      have h2' : (g == 2) = false := by simpa using h2
      clear h1 h2
      go_enter Try.func9, Try.ntmps9
      go_wp2
      go_ret
      exact ⟨rfl, rfl⟩
end Go.Proofs.Qxb6615783a
