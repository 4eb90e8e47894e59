/-
  Seat b6615733aF: which copy is newer; the rank order.
-/
import Derived.Test.Qxb6615733aFmtWalkA
import Derived.Deep.RegionHeld3
namespace Go.Proofs.Qxb6615733aFmt
open Go.RowKit

def stC (x : St) : Array Value := #[.string x.id, .string x.addr, .int .u64 x.first, .int .u64 x.last, .int .u64 x.prom, x.ep, .int .u64 x.bytes, .bool x.lost, .bool x.failed]
theorem Ep.below {w w' : World} {v : Value} {es : List (Int × Int)} (h : Ep w v es) (hb : Below w.heap.size w w') : Ep w' v es := by
  obtain ⟨ao, c, hv, h1, h2, h3⟩ := h
  refine ⟨ao, c, hv, h1, h2, fun h0 => ?_⟩
  obtain ⟨g, o, ha, hg, hs⟩ := h3 h0
  refine ⟨g, o, ha, Nat.lt_of_lt_of_le hg hb.size, fun k x hx => ?_⟩
  rw [hb.cell (p := ⟨g, o + k * 2, none⟩) hg, hb.cell (p := ⟨g, o + k * 2 + 1, none⟩) hg]
  exact hs k x hx
theorem StAt.below {w w' : World} {g p : Nat} {x : St} (h : StAt w g p x) (hg : g < w.heap.size) (hb : Below w.heap.size w w') : StAt w' g p x := by
  unfold StAt at h ⊢
  have key : ∀ q, w'.cell? ⟨g, q, none⟩ = w.cell? ⟨g, q, none⟩ := fun q => hb.cell (p := ⟨g, q, none⟩) hg
  simp only [key]; exact h
theorem Arg.below {w w' : World} {v : Value} {xs : List St} (h : Arg w v xs) (hb : Below w.heap.size w w') : Arg w' v xs := by
  obtain ⟨ao, c, hv, h1, h2, h3, h4⟩ := h
  refine ⟨ao, c, hv, h1, h2, fun h0 => ?_, fun i x hx => ⟨(h4 i x hx).1.below hb, (h4 i x hx).2⟩⟩
  obtain ⟨g, o, ha, hg, hs⟩ := h3 h0
  exact ⟨g, o, ha, Nat.lt_of_lt_of_le hg hb.size, fun i x hx => (hs i x hx).below hg hb⟩
def newer (x y : St) : Bool := if tailOf x.es = tailOf y.es then decide (y.last < x.last) else decide (tailOf y.es < tailOf x.es)
def NewB (x y : St) (w : World) (e : Ending) (w' : World) : Prop := e = .returned (.bool (newer x y)) ∧ Below w.heap.size w w'

set_option maxHeartbeats 2000000 in
set_option maxRecDepth 100000 in
theorem newer_any (x y : St) (w : World) (hx : Ep w x.ep x.es) (hy : Ep w y.ep y.es) : Calls Tryf.prog 19 #[.agg (stC x), .agg (stC y)] w (NewB x y w) := by
  obtain ⟨s, hs⟩ : ∃ s, newer x y = s := ⟨_, rfl⟩
  have Hs : Hid _ := hs
  have K : ∀ o1 o2 : Obj, Below w.heap.size w ((w.alloc o1).alloc o2) := fun o1 o2 => ((Below.refl _ w).alloc (Nat.le_refl _) o1).alloc (by simp) o2
  have HK : Hid _ := K
  have HX : Hid _ := hx
  have HY : Hid _ := hy
  unfold NewB
  rw [hs]
  clear hs K hx hy
  unfold stC
  obtain ⟨tx, htx⟩ : ∃ t, t = tailOf x.es := ⟨_, rfl⟩
  obtain ⟨ty, hty⟩ : ∃ t, t = tailOf y.es := ⟨_, rfl⟩
  have X : Hid _ := htx
  have Y : Hid _ := hty
  clear htx hty
  go_enter Tryf.func19, Tryf.ntmps19
  go_wp2_with fail
  refine (zzTail_any _ x.es _ (Ep.below HX.out (HK.out _ _))).mono ?_
  rintro e w' ⟨rfl, rfl⟩
  rw [← X.out]
  go_wp2_with fail
  refine (zzTail_any _ y.es _ (Ep.below HY.out (HK.out _ _))).mono ?_
  rintro e w' ⟨rfl, rfl⟩
  rw [← Y.out]
  by_cases hne : tx = ty
  · have hn := hne
    have e1 : (tx != ty) = false := by simp [hne]
    have r1 : decide (y.last < x.last) = s := by rw [← Hs.out]; unfold newer; rw [← X.out, ← Y.out, if_pos hne]
    clear hne hn
    go_wp2
    go_ret
    exact ⟨rfl, HK.out _ _⟩
  · have e1 : (tx != ty) = true := by simp [hne]
    have r1 : decide (ty < tx) = s := by rw [← Hs.out]; unfold newer; rw [← X.out, ← Y.out, if_neg hne]
    clear hne
    go_wp2
    go_ret
    exact ⟨rfl, HK.out _ _⟩
end Go.Proofs.Qxb6615733aFmt
