/-
  Seat b6615733aF: the copies' states are built.
-/
import Derived.Test.Qxb6615733aFmtWalkE
namespace Go.Proofs.Qxb6615733aFmt
open Go.RowKit
attribute [local go_sem ↓] Go.wp_at_zero Go.wp_at_succ

/-- the row of pairs that is being filled. -/
def Ew (B : Nat) (w : World) (es : List (Int × Int)) (k : Nat) (wr : World) : Prop :=
  Below B w wr ∧ ∃ c : Array Value, wr.heap[B]? = some (.cells c 58) ∧ c.size = es.length * 2 ∧ ∀ (j : Nat) (x : Int × Int), j < k → es[j]? = some x → c[j * 2]? = some (.int .u64 x.1) ∧ c[j * 2 + 1]? = some (.int .u64 x.2)
theorem Ew.cells {B : Nat} {w wr : World} {es : List (Int × Int)} {k : Nat} (h : Ew B w es k wr) (hk : k < es.length) : ∃ u v, wr.cell? ⟨B, k * 2, none⟩ = some u ∧ wr.cell? ⟨B, k * 2 + 1, none⟩ = some v ∧ wr.frozen? ⟨B, k * 2, none⟩ = false ∧ wr.frozen? ⟨B, k * 2 + 1, none⟩ = false := by
  obtain ⟨_, c, hc, hs, _⟩ := h
  have a := blk_cell hc (i := k * 2) (Array.getElem?_eq_getElem (by omega))
  have b := blk_cell hc (i := k * 2 + 1) (Array.getElem?_eq_getElem (by omega))
  exact ⟨_, _, a.1, b.1, a.2, b.2⟩
theorem Ew.set {B : Nat} {w wr : World} {es : List (Int × Int)} {k : Nat} (h : Ew B w es k wr) (hk : k < es.length) {x : Int × Int} (hx : es[k]? = some x) : Ew B w es (k + 1) ((wr.setCell ⟨B, k * 2, none⟩ (.int .u64 x.1)).setCell ⟨B, k * 2 + 1, none⟩ (.int .u64 x.2)) := by
  obtain ⟨h0, c, hc, hs, hf⟩ := h
  refine ⟨(h0.setCell (p := ⟨B, k * 2, none⟩) (Nat.le_refl _) _).setCell (p := ⟨B, k * 2 + 1, none⟩) (Nat.le_refl _) _, _, setCell_at (setCell_at hc _) _, by simp [hs], fun j y hj hy => ?_⟩
  simp only [Array.getElem?_setIfInBounds, Array.size_setIfInBounds]
  by_cases e : j = k
  · subst e
    rw [hx] at hy
    cases hy
    rw [if_neg (by omega), if_pos rfl, if_pos (by omega), if_pos rfl, if_pos (by omega)]
    exact ⟨rfl, rfl⟩
  · rw [if_neg (by omega), if_neg (by omega), if_neg (by omega), if_neg (by omega)]
    exact hf j y (by omega) hy
/-- .. in a block of its own. -/
def EpN (w : World) (v : Value) (es : List (Int × Int)) : Prop :=
  ∃ (g : Nat) (c : Array Value), v = .slice (some ⟨g, 0, none⟩) es.length es.length ∧ es.length ≤ maxLen ∧ w.heap[g]? = some (.cells c 58) ∧ ∀ (j : Nat) (x : Int × Int), es[j]? = some x → c[j * 2]? = some (.int .u64 x.1) ∧ c[j * 2 + 1]? = some (.int .u64 x.2)
theorem EpN.ep {w : World} {v : Value} {es : List (Int × Int)} (h : EpN w v es) : Ep w v es := by
  obtain ⟨g, c, rfl, hm, hc, hf⟩ := h
  refine ⟨_, _, rfl, Nat.le_refl _, hm, fun _ => ⟨g, 0, rfl, ?_, fun k x hx => ?_⟩⟩
  · exact (Array.getElem?_eq_some_iff.1 hc).1
  · obtain ⟨a, b⟩ := hf k x hx
    rw [Nat.zero_add]
    exact ⟨(blk_cell hc a).1, (blk_cell hc b).1⟩
theorem Ew.own {w wr : World} {es : List (Int × Int)} (h : Ew w.heap.size w es es.length wr) (hm : es.length ≤ maxLen) : EpN wr (.slice (some ⟨w.heap.size, 0, none⟩) es.length es.length) es := by
  obtain ⟨h0, c, hc, hs, hf⟩ := h
  exact ⟨_, c, rfl, hm, hc, fun j x hx => hf j x (List.getElem?_eq_some_iff.1 hx).1 hx⟩
theorem Ew.drew {B : Nat} {w wr : World} {es : List (Int × Int)} {k : Nat} (h : Ew B w es k wr) (m : Nat) : Ew B w es k (wr.drewN m) := ⟨h.1.trans ⟨rfl, rfl, rfl, Nat.le_refl _, fun _ _ => rfl⟩, h.2⟩
theorem pairInfo : ∃ i, Tryf.prog.info? 58 = some i ∧ i.zero = some (.agg #[.int .u64 0, .int .u64 0]) ∧ i.size = 2 ∧ i.bytes = 16 := info_parts (by kernel_rfl)
theorem make_pairs (es : List (Int × Int)) (w : World) (hn : es.length ≤ 65536) : ∃ wx, (Instr.makeSlice 38 (.int .i64 (es.length : Int)) (.int .i64 (es.length : Int))).run Tryf.prog w = .ok (.slice (some ⟨w.heap.size, 0, none⟩) es.length es.length) wx ∧ Ew w.heap.size w es 0 wx := by
  obtain ⟨i, hi, hz, h1, h2⟩ := pairInfo
  have hr := run_make (P := Tryf.prog) w 38 58 i _ Tryf.underlying38 hi hz .i64 .i64 es.length es.length (by omega) (Int.le_refl _) (by rw [h2]; omega) (by omega)
  simp only [Int.toNat_natCast] at hr
  exact ⟨_, hr, (Below.refl _ w).alloc (Nat.le_refl _) _, _, heap_new w _, (size_madeCells _ _).trans (by rw [h1]), fun j x hj => by omega⟩
def El (es : List (Int × Int)) (w : World) (vk : Value) (wr : World) : Prop := ∃ k : Nat, vk = .int .i64 k ∧ k ≤ es.length ∧ Ew w.heap.size w es k wr
def EpPost (es : List (Int × Int)) (w : World) (e : Ending) (w' : World) : Prop := ∃ v, e = .returned v ∧ EpN w' v es ∧ Below w.heap.size w w'

set_option maxHeartbeats 8000000 in
set_option maxRecDepth 100000 in
theorem epochs_any (v : Value) (es : List (Int × Int)) (w : World) (h : Ep w v es) (hn : es.length ≤ 65536) : Calls Tryf.prog 15 #[v] w (EpPost es w) := by
  obtain ⟨ao, cp, rfl, hcp, hm, hst⟩ := h
  have HM : Hid _ := hm
  have H1 : Hid _ := hst
  clear hm hst
  obtain ⟨w0, hmk, hE⟩ := make_pairs es w hn
  go_enter Tryf.func15, Tryf.ntmps15
  go_wp2_with fail
  clear hmk
  go_loopw [4] (fun vk wr => El es w vk wr) (fun vk _ => es.length - (intOf vk).toNat)
  case atStart => exact ⟨0, rfl, Nat.zero_le _, hE⟩
  case round =>
    obtain ⟨k, rfl, hk, hW⟩ := hrel
    clear hE
    by_cases hlt : k < es.length
    · obtain ⟨g1, o1, rfl, hg1, hs1⟩ := H1.out (by omega)
      obtain ⟨y, hy⟩ : ∃ y, es[k] = y := ⟨_, rfl⟩
      have hky := getSome hlt
      rw [hy] at hky
      obtain ⟨c1, c2⟩ := hs1 k _ hky
      have f1 := (hW.1.cell (p := ⟨g1, o1 + k * 2, none⟩) hg1).trans c1
      have f2 := (hW.1.cell (p := ⟨g1, o1 + k * 2 + 1, none⟩) hg1).trans c2
      obtain ⟨u, v, d1, d2, d3, d4⟩ := hW.cells hlt
      have Hky : Hid _ := hky
      clear c1 c2 hs1 hy hky
      go_upto_region 5 with fail
      go_region
      go_wp2
      go_roundw
      case rel => exact ⟨k + 1, by go_num, hlt, (hW.drew 1).set hlt Hky.out⟩
      case measure => simp [intOf]; omega
    · have e : k = es.length := by omega
      subst e
      go_wp2
      go_ret
      exact ⟨_, rfl, hW.own HM.out, hW.1⟩

/-- "copy failed". -/
def errText : ByteArray := ⟨#[99, 111, 112, 121, 32, 102, 97, 105, 108, 101, 100]⟩
def ErrAt (w : World) (b : Nat) : Prop := w.heap[b]? = some (.cells #[.int .i64 503, .string errText, .bool false] 75)
def AnsPost (x : St) (ep : Value) (w : World) (e : Ending) (w' : World) : Prop := e = .returned (.agg (csC x ep .nilIface)) ∧ Below w.heap.size w w'
def FailPost (x : St) (ep : Value) (w : World) (e : Ending) (w' : World) : Prop := ∃ b, e = .returned (.agg (csC x ep (.iface 73 (.pointer (some ⟨b, 0, none⟩))))) ∧ ErrAt w' b ∧ Below w.heap.size w w'

theorem bela3 (w : World) (o1 o2 o3 : Obj) : Below w.heap.size w (((w.alloc o1).alloc o2).alloc o3) :=
  (((Below.refl _ w).alloc (Nat.le_refl _) o1).alloc (by simp) o2).alloc (by simp; omega) o3
theorem bela4 (w : World) (o1 o2 o3 o4 : Obj) : Below w.heap.size w ((((w.alloc o1).alloc o2).alloc o3).alloc o4) := (bela3 w o1 o2 o3).alloc (bela3 w o1 o2 o3).size o4
theorem heap_new3 (w : World) (o1 o2 o3 o4 : Obj) : ((((w.alloc o1).alloc o2).alloc o3).alloc o4).heap[w.heap.size + 1 + 1 + 1]? = some o4 := by
  have := heap_new (((w.alloc o1).alloc o2).alloc o3) o4
  simpa using this
set_option maxHeartbeats 2000000 in
set_option maxRecDepth 100000 in
theorem answered_any (x : St) (ao : Option Addr) (l c : Nat) (w : World) :
    Calls Tryf.prog 17 #[.agg #[.string x.id, .string x.addr], .agg #[.int .u64 x.first, .int .u64 x.last, .int .u64 x.prom, .slice ao l c, .int .u64 x.bytes, .bool x.lost]] w (AnsPost x (.slice ao l c) w) := by
  go_enter Tryf.func17, Tryf.ntmps17
  go_wp2
  exact bodyPost_ret (v := .agg (csC x (.slice ao l c) .nilIface)) (by simp [results, Tryf.results17, go_sem, csC]) rfl ⟨rfl, bela3 _ _ _ _⟩
set_option maxHeartbeats 2000000 in
set_option maxRecDepth 100000 in
theorem failed_any (x : St) (ao : Option Addr) (l c : Nat) (w : World) :
    Calls Tryf.prog 16 #[.agg #[.string x.id, .string x.addr], .agg #[.int .u64 x.first, .int .u64 x.last, .int .u64 x.prom, .slice ao l c, .int .u64 x.bytes, .bool x.lost]] w (FailPost x (.slice ao l c) w) := by
  go_enter Tryf.func16, Tryf.ntmps16
  go_wp2
  exact bodyPost_ret (v := .agg (csC x (.slice ao l c) (.iface 73 (.pointer (some ⟨w.heap.size + 1 + 1 + 1, 0, none⟩))))) (by simp [results, Tryf.results16, go_sem, csC]) rfl ⟨_, rfl, heap_new3 _ _ _ _ _, bela4 _ _ _ _ _⟩
end Go.Proofs.Qxb6615733aFmt
