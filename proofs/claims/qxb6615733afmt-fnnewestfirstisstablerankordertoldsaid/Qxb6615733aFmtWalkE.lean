/-
  Seat b6615733aF: a copy's state against the state that it was built of.
-/
import Derived.Test.Qxb6615733aFmtWalkD
namespace Go.Proofs.Qxb6615733aFmt
open Go.RowKit
attribute [local go_sem ↓] Go.wp_at_zero Go.wp_at_succ

/-- a CopyState's cells. -/
def csC (x : St) (ep err : Value) : Array Value := #[.string x.id, .string x.addr, .int .u64 x.first, .int .u64 x.last, .int .u64 x.prom, ep, .int .u64 x.bytes, .bool x.lost, err]
def Sl (w : World) (a1 a2 : Option Addr) (p1 p2 n : Nat) (vk : Value) (wr : World) : Prop := ∃ k : Nat, vk = .int .i64 k ∧ k ≤ n ∧ Below w.heap.size w wr ∧ wr.cell? ⟨w.heap.size + 1, 5, none⟩ = some (.slice a1 n p1) ∧ wr.cell? ⟨w.heap.size + 1 + 1, 3, none⟩ = some (.slice a2 n p2)
theorem Sl.next {w wr : World} {a1 a2 : Option Addr} {p1 p2 n k : Nat} {z : Int} (hz : z = ((k + 1 : Nat) : Int)) (hk : k < n) (hb : Below w.heap.size w wr) (h1 : wr.cell? ⟨w.heap.size + 1, 5, none⟩ = some (.slice a1 n p1)) (h2 : wr.cell? ⟨w.heap.size + 1 + 1, 3, none⟩ = some (.slice a2 n p2)) (m : Nat) : Sl w a1 a2 p1 p2 n (.int .i64 z) (wr.drewN m) :=
  ⟨k + 1, by rw [hz], hk, hb.trans ⟨rfl, rfl, rfl, Nat.le_refl _, fun _ _ => rfl⟩, h1, h2⟩
theorem bel3 (w : World) (o1 o2 o3 : Obj) (m : Nat) : Below w.heap.size w ((((w.alloc o1).alloc o2).drewN m).alloc o3) := by
  have h1 : Below w.heap.size w ((w.alloc o1).alloc o2) := ((Below.refl _ w).alloc (Nat.le_refl _) o1).alloc (by simp) o2
  have h2 : Below w.heap.size w (((w.alloc o1).alloc o2).drewN m) := h1.trans ⟨rfl, rfl, rfl, Nat.le_refl _, fun _ _ => rfl⟩
  exact h2.alloc h2.size o3
theorem cell3 (w : World) (c1 c2 c3 : Array Value) (t1 t2 t3 : TypeId) (m : Nat) (i j : Nat) (u v : Value) (hu : c2[i]? = some u) (hv : c3[j]? = some v) : ((((w.alloc (.cells c1 t1)).alloc (.cells c2 t2)).drewN m).alloc (.cells c3 t3)).cell? ⟨w.heap.size + 1, i, none⟩ = some u ∧ ((((w.alloc (.cells c1 t1)).alloc (.cells c2 t2)).drewN m).alloc (.cells c3 t3)).cell? ⟨w.heap.size + 1 + 1, j, none⟩ = some v := by
  constructor
  · refine (blk_cell (c := c2) (ty := t2) ?_ hu).1
    rw [Below.heap_alloc _ _ _ (by show w.heap.size + 1 < ((w.alloc _).alloc _).heap.size; simp)]
    have := heap_new (w.alloc (.cells c1 t1)) (.cells c2 t2)
    simpa using this
  · refine (blk_cell (c := c3) (ty := t3) ?_ hv).1
    have := heap_new (((w.alloc (.cells c1 t1)).alloc (.cells c2 t2)).drewN m) (.cells c3 t3)
    have e : (((w.alloc (.cells c1 t1)).alloc (.cells c2 t2)).drewN m).heap.size = w.heap.size + 1 + 1 := by show ((w.alloc _).alloc _).heap.size = _; simp
    rwa [e] at this
def TrueB (w : World) (e : Ending) (w' : World) : Prop := e = .returned (.bool true) ∧ Below w.heap.size w w'

set_option maxHeartbeats 8000000 in
set_option maxRecDepth 100000 in
theorem sameAs_any (x : St) (ep : Value) (w : World) (hf : x.failed = false) (h1 : Ep w x.ep x.es) (h2 : Ep w ep x.es) : Calls Tryf.prog 9 #[.agg (csC x ep .nilIface), .agg (stC x)] w (TrueB w) := by
  obtain ⟨a1, p1, hv1, hc1, hm1, hs1⟩ := h1
  obtain ⟨a2, p2, hv2, hc2, hm2, hs2⟩ := h2
  subst hv2
  unfold stC csC
  rw [hv1, hf]
  have hm := hm1
  unfold maxLen at hm
  clear hm1 hm2 hv1 hf
  have H1 : Hid _ := hs1
  have H2 : Hid _ := hs2
  clear hs1 hs2
  go_enter Tryf.func9, Tryf.ntmps9
  go_upto_region 1 with fail
  go_quiet (fail)
  go_wp2_with fail
  go_loopw [6] (fun vk wr => Sl w a1 a2 p1 p2 x.es.length vk wr) (fun vk _ => x.es.length - (intOf vk).toNat)
  case atStart => exact ⟨0, rfl, Nat.zero_le _, bel3 _ _ _ _ _, (cell3 _ _ _ _ _ _ _ _ 5 3 _ _ rfl rfl).1, (cell3 _ _ _ _ _ _ _ _ 5 3 _ _ rfl rfl).2⟩
  case round =>
    obtain ⟨k, rfl, hk, hb, b1, b2⟩ := hrel
    by_cases hlt : k < x.es.length
    · obtain ⟨g1, o1, rfl, hg1, hs1⟩ := H1.out (by omega)
      obtain ⟨g2, o2, rfl, hg2, hs2⟩ := H2.out (by omega)
      obtain ⟨y, hy⟩ : ∃ y, x.es[k] = y := ⟨_, rfl⟩
      obtain ⟨c1, c2⟩ := hs1 k _ (getSome hlt)
      obtain ⟨d1, d2⟩ := hs2 k _ (getSome hlt)
      rw [hy] at c1 c2 d1 d2
      have f1 := (hb.cell (p := ⟨g1, o1 + k * 2, none⟩) hg1).trans c1
      have f2 := (hb.cell (p := ⟨g1, o1 + k * 2 + 1, none⟩) hg1).trans c2
      have f3 := (hb.cell (p := ⟨g2, o2 + k * 2, none⟩) hg2).trans d1
      have f4 := (hb.cell (p := ⟨g2, o2 + k * 2 + 1, none⟩) hg2).trans d2
      clear c1 c2 d1 d2 hs1 hs2 hy
      go_upto_region 13 with fail
      go_quiet (fail)
      go_wp2
      go_roundw
      case rel => exact Sl.next (by omega) hlt hb b1 b2 _
      case measure => simp [intOf]; omega
    · go_wp2
      go_ret
      exact ⟨rfl, hb⟩
end Go.Proofs.Qxb6615733aFmt
