/-
  Seat b6615733aF: the rank order.
-/
import Derived.Test.Qxb6615733aFmtWalkC
import Derived.Deep.DeepCutAuto
import Derived.Deep.DrawnRows
import Derived.Laws.MakeOwn
import Derived.Laws.OwnMore
import Derived.OwnWalk
import Derived.BigQuiet
import Derived.Deep.QuietTactic
namespace Go.Proofs.Qxb6615733aFmt
open Go.RowKit
attribute [local go_sem ↓] Go.wp_at_zero Go.wp_at_succ

theorem ks_of {w w' : World} (h : Below w.heap.size w w') : Below w.heap.size w w' ∧ ∀ b o, b < w.heap.size → w'.cell? ⟨b, o, none⟩ = w.cell? ⟨b, o, none⟩ := ⟨h, fun b o hb => h.cell (p := ⟨b, o, none⟩) hb⟩
theorem ks_call {w W w4 : World} (h : Below w.heap.size w W ∧ ∀ b o, b < w.heap.size → W.cell? ⟨b, o, none⟩ = w.cell? ⟨b, o, none⟩) (k : Below W.heap.size W w4) : Below w.heap.size w w4 := h.1.trans (k.mono h.1.size)

theorem below_drewN (w : World) (n : Nat) : Below w.heap.size w (w.drewN n) := ⟨rfl, rfl, rfl, Nat.le_refl _, fun _ _ => rfl⟩
def st0 : St := ⟨⟨#[]⟩, ⟨#[]⟩, 0, 0, 0, .slice none 0 0, [], 0, false, false⟩
def X (xs : List St) (j : Nat) : St := (xs[j]?).getD st0
theorem X_at (xs : List St) (j : Nat) (h : j < xs.length) : xs[j]? = some (X xs j) := by unfold X; rw [getSome h]; rfl
/-- does the state j stand ahead of the state i? -/
def beat (xs : List St) (i j : Nat) : Bool := !(X xs j).failed && (j != i) && (newer (X xs j) (X xs i) || (decide (j < i) && !newer (X xs i) (X xs j)))
def rk (xs : List St) (i J : Nat) : Nat := ((List.range J).filter (beat xs i)).length
theorem rk_succ (xs : List St) (i J : Nat) : rk xs i (J + 1) = rk xs i J + (if beat xs i J then 1 else 0) := by
  unfold rk
  rw [List.range_succ, List.filter_append, List.length_append]
  cases h : beat xs i J <;> simp [h]
theorem rk_le (xs : List St) (i J : Nat) : rk xs i J ≤ J := by
  unfold rk
  have := List.length_filter_le (beat xs i) (List.range J)
  rwa [List.length_range] at this
def upd (f : Nat → Nat) (p x : Nat) : Nat → Nat := fun k => if k = p then x else f k
/-- the row 'ord' behind the first i states. -/
def ordf (xs : List St) (n : Nat) : Nat → Nat → Nat
  | 0 => fun _ => 0
  | i + 1 => if (X xs i).failed then ordf xs n i else if rk xs i xs.length < n then upd (ordf xs n i) (rk xs i xs.length) i else ordf xs n i
/-- a block of integers. -/
def Ow (B : Nat) (w : World) (n : Nat) (f : Nat → Nat) (wr : World) : Prop := Below B w wr ∧ ∃ c : Array Value, wr.heap[B]? = some (.cells c 3) ∧ c.size = n ∧ ∀ p, p < n → c[p]? = some (.int .i64 (f p))
theorem blk_cell {w : World} {b i : Nat} {c : Array Value} {ty : TypeId} {x : Value} (h : w.heap[b]? = some (.cells c ty)) (hi : c[i]? = some x) : w.cell? ⟨b, i, none⟩ = some x ∧ w.frozen? ⟨b, i, none⟩ = false := by
  constructor
  · simp [World.cell?, h, hi]
  · simp [World.frozen?, h]
theorem setCell_at {w : World} {q i : Nat} {c : Array Value} {ty : TypeId} (h : w.heap[q]? = some (.cells c ty)) (u : Value) :
    (w.setCell ⟨q, i, none⟩ u).heap[q]? = some (.cells (c.setIfInBounds i u) ty) := by
  simp [World.setCell, Array.getElem?_modify, h]
theorem Ow.cell {B : Nat} {w wr : World} {n : Nat} {f : Nat → Nat} (h : Ow B w n f wr) {p : Nat} (hp : p < n) : wr.cell? ⟨B, p, none⟩ = some (.int .i64 (f p)) ∧ wr.frozen? ⟨B, p, none⟩ = false := by
  obtain ⟨_, c, hc, _, hf⟩ := h
  exact blk_cell hc (hf p hp)
theorem Ow.lt {B : Nat} {w wr : World} {n : Nat} {f : Nat → Nat} (h : Ow B w n f wr) : B < wr.heap.size := by
  obtain ⟨_, c, hc, _⟩ := h
  rcases Nat.lt_or_ge B wr.heap.size with h | h
  · exact h
  · rw [Array.getElem?_eq_none h] at hc; cases hc
theorem Ow.below {B : Nat} {w wr wx : World} {n : Nat} {f : Nat → Nat} (h : Ow B w n f wr) (hb : Below wr.heap.size wr wx) : Ow B w n f wx := by
  have hl := h.lt
  obtain ⟨h0, c, hc, h1, h2⟩ := h
  exact ⟨h0.trans (hb.mono (Nat.le_of_lt hl)), c, (hb.block B hl).trans hc, h1, h2⟩
theorem Ow.set {B : Nat} {w wr : World} {n : Nat} {f : Nat → Nat} (h : Ow B w n f wr) {p x : Nat} (hp : p < n) : Ow B w n (upd f p x) (wr.setCell ⟨B, p, none⟩ (.int .i64 x)) := by
  obtain ⟨h0, c, hc, h1, h2⟩ := h
  refine ⟨h0.setCell (p := ⟨B, p, none⟩) (Nat.le_refl _) _, _, setCell_at hc _, by simp [h1], fun q hq => ?_⟩
  rw [Array.getElem?_setIfInBounds]
  unfold upd
  by_cases e : p = q
  · subst e; simp [h1, hp]
  · rw [if_neg e, if_neg (fun h => e h.symm)]; exact h2 q hq
theorem heap_new (w : World) (o : Obj) : (w.alloc o).heap[w.heap.size]? = some o := (MapKept.heap_alloc w o).1
theorem intInfo : ∃ i, Tryf.prog.info? 3 = some i ∧ i.zero = some (.int .i64 0) ∧ i.size = 1 ∧ i.bytes = 8 := info_parts (by kernel_rfl)
theorem make_ints (n : Nat) (w : World) (hn : n ≤ 4096) : ∃ wx, (Instr.makeSlice 31 (.int .i64 (n : Int)) (.int .i64 (n : Int))).run Tryf.prog w = .ok (.slice (some ⟨w.heap.size, 0, none⟩) n n) wx ∧ Ow w.heap.size w n (fun _ => 0) wx := by
  obtain ⟨i, hi, hz, h1, h2⟩ := intInfo
  have hr := run_make (P := Tryf.prog) w 31 3 i (.int .i64 0) Tryf.underlying31 hi hz .i64 .i64 n n (by omega) (Int.le_refl _) (by rw [h2]; omega) (by omega)
  simp only [Int.toNat_natCast] at hr
  refine ⟨_, hr, (Below.refl _ w).alloc (Nat.le_refl _) _, _, heap_new w _, (size_madeCells _ _).trans (by rw [h1]; omega), fun p hp => ?_⟩
  have hl : (madeCells (Value.int .i64 0).cells (n * i.size)).toList = List.replicate (n * i.size) (.int .i64 0) := toList_madeCells_one _ _
  rw [← Array.getElem?_toList, hl, List.getElem?_replicate, h1, if_pos (by omega)]
  rfl
def Oo (xs : List St) (n : Nat) (w : World) (vi : Value) (wr : World) : Prop := ∃ i : Nat, vi = .int .i64 i ∧ i ≤ xs.length ∧ Ow w.heap.size w n (ordf xs n i) wr
def Oi (xs : List St) (n i : Nat) (w : World) (vp vj : Value) (wr : World) : Prop := ∃ j p : Nat, vj = .int .i64 j ∧ vp = .int .i64 p ∧ j ≤ xs.length ∧ p ≤ j ∧ p = rk xs i j ∧ Ow w.heap.size w n (ordf xs n i) wr
def OrdPost (xs : List St) (n : Nat) (w : World) (e : Ending) (w' : World) : Prop := e = .returned (.slice (some ⟨w.heap.size, 0, none⟩) n n) ∧ Ow w.heap.size w n (ordf xs n xs.length) w'
theorem ret_any {e : Ending} {v u : Value} (h : e = .returned v) (hv : v = u) : e = .returned u := by rw [h, hv]

set_option maxHeartbeats 8000000 in
set_option maxRecDepth 100000 in
theorem order_any (xs : List St) (v : Value) (w : World) (h : Arg w v xs) (hn : xs.length ≤ 4096) : Calls Tryf.prog 8 #[v] w (OrdPost xs (nAns xs) w) := by
  have harg := h
  obtain ⟨ao, cp, rfl, hcp, hm, hst, hep⟩ := h
  have HA : Hid (Arg w _ xs) := harg
  clear hst hep hm harg
  obtain ⟨n, hN⟩ : ∃ n, n = nAns xs := ⟨_, rfl⟩
  have hn2 : n ≤ xs.length := by rw [hN]; exact nAns_le xs
  rw [← hN]
  have HN : Hid _ := hN
  clear hN
  go_enter Tryf.func8, Tryf.ntmps8
  go_wp2_with fail
  refine (countAnswered_any xs _ w HA.out hn).mono ?_
  rintro e w' ⟨rfl, rfl⟩
  rw [← HN.out]
  obtain ⟨w0, hmk, hO⟩ := make_ints n w (by omega)
  go_wp2_with fail
  clear hmk
  go_loopw [4] (fun vi wr => Oo xs n w vi wr) (fun vi _ => xs.length - (intOf vi).toNat)
  case atStart => exact ⟨0, rfl, Nat.zero_le _, hO⟩
  case round =>
    obtain ⟨i, rfl, hi, hO1⟩ := hrel
    clear hO
    have bel := hO1.1
    by_cases hlt : i < xs.length
    · obtain ⟨ao', cp', hv', _, _, hst, hep⟩ := HA.out.below bel
      cases hv'
      obtain ⟨g, o, rfl, hg, hs⟩ := hst (by omega)
      have hx0 := hs i _ (X_at xs i hlt)
      obtain ⟨xi, hxi⟩ : ∃ x, X xs i = x := ⟨_, rfl⟩
      rw [hxi] at hx0
      have Hxi : Hid _ := hxi
      obtain ⟨c0, c1, c2, c3, c4, c5, c6, c7, c8⟩ := hx0
      clear hst hep hs hxi
      cases hf : xi.failed with
      | true =>
        rw [hf] at c8
        go_wp2
        go_roundw
        case rel => exact ⟨i + 1, by go_num, hlt, by unfold ordf; rw [Hxi.out, hf]; exact hO1⟩
        case measure => simp [intOf]; omega
      | false =>
        rw [hf] at c8
        go_wp2_with fail
        go_loopw [5, 6] (fun vp vj wr2 => Oi xs n i w vp vj wr2) (fun _ vj _ => xs.length - (intOf vj).toNat)
        case atStart => exact ⟨0, 0, rfl, rfl, Nat.zero_le _, Nat.le_refl _, rfl, hO1⟩
        case round =>
          obtain ⟨j, p, rfl, rfl, hj, hpj, hp, hO2⟩ := hrel
          have Hp : Hid _ := hp
          have bel2 := hO2.1
          clear hp c0 c1 c2 c3 c4 c5 c6 c7 c8 hO1 bel
          obtain ⟨ao', cp', hv', _, _, hst, hep⟩ := HA.out.below bel2
          cases hv'
          obtain ⟨g', o', hgo, hg', hs⟩ := hst (by omega)
          cases hgo
          have hx0 := hs i _ (X_at xs i hlt)
          have hxe := (hep i _ (X_at xs i hlt)).1
          rw [Hxi.out] at hx0 hxe
          obtain ⟨c0, c1, c2, c3, c4, c5, c6, c7, c8⟩ := hx0
          rw [hf] at c8
          by_cases hjl : j < xs.length
          · have hy0 := hs j _ (X_at xs j hjl)
            have hye := (hep j _ (X_at xs j hjl)).1
            obtain ⟨xj, hxj⟩ : ∃ x, X xs j = x := ⟨_, rfl⟩
            rw [hxj] at hy0 hye
            have Hxj : Hid _ := hxj
            obtain ⟨d0, d1, d2, d3, d4, d5, d6, d7, d8⟩ := hy0
            clear hst hep hs hxj
            have done0 : beat xs i j = false → ∀ z : Int, z = (j : Int) + 1 → ∀ wx, Ow w.heap.size w n (ordf xs n i) wx → Oi xs n i w (.int .i64 p) (.int .i64 z) wx := fun hb z hz wx ho => ⟨j + 1, p, by rw [hz]; rfl, rfl, hjl, by omega, by rw [rk_succ, hb, Hp.out]; rfl, ho⟩
            have done1 : beat xs i j = true → ∀ z y : Int, z = (j : Int) + 1 → y = (p : Int) + 1 → ∀ wx, Ow w.heap.size w n (ordf xs n i) wx → Oi xs n i w (.int .i64 y) (.int .i64 z) wx := fun hb z y hz hy wx ho => ⟨j + 1, p + 1, by rw [hz]; rfl, by rw [hy]; rfl, hjl, by omega, by rw [rk_succ, hb, Hp.out]; rfl, ho⟩
            have D0 : Hid _ := done0
            have D1 : Hid _ := done1
            clear done0 done1
            cases hfj : xj.failed with
            | true =>
              rw [hfj] at d8
              have HB : Hid (beat xs i j = false) := by show beat xs i j = false; unfold beat; rw [Hxj.out, hfj]; rfl
              go_wp2
              go_roundw
              case rel => exact D0.out HB.out _ rfl _ hO2
              case measure => simp [intOf]; omega
            | false =>
              rw [hfj] at d8
              by_cases hij : j = i
              · have e35 : ((j : Int) == (i : Int)) = true := by simp; omega
                have HB : Hid (beat xs i j = false) := by show beat xs i j = false; unfold beat; simp [hij]
                clear hij
                go_wp2
                go_roundw
                case rel => exact D0.out HB.out _ rfl _ hO2
                case measure => simp [intOf]; omega
              · have e35 : ((j : Int) == (i : Int)) = false := by simp; omega
                have K : ∀ w', Below wr.heap.size wr w' → Calls Tryf.prog 19 #[.agg (stC xj), .agg (stC xi)] w' (NewB xj xi w') := fun w' hb => newer_any xj xi w' (hye.below hb) (hxe.below hb)
                unfold stC at K
                rw [hfj, hf] at K
                have HK : Hid _ := K
                clear K
                obtain ⟨b1, hb1⟩ : ∃ b, b = newer xj xi := ⟨_, rfl⟩
                have Hb1 : Hid _ := hb1
                clear hb1
                go_upto_region 11 with fail
                go_cut [45] from 21 to 64 (fun s45 wx => s45 = .bool b1 ∧ Below wr.heap.size wr wx)
                case first =>
                  go_region_with (go_at_call 19; refine Calls.mono (HK.out _ (by first | exact (Below.refl _ _).drew | exact Below.refl _ _)) ?_; rintro x w4 ⟨rfl, hb4⟩)
                  all_goals (go_wp2_with fail; go_meet; exact ⟨by rw [Hb1.out], (Below.refl _ _).drew.trans (hb4.mono (Nat.le_refl _))⟩)
                case rest =>
                rename World => wA
                obtain ⟨rfl, hcb⟩ := hcut
                have hO3 := hO2.below hcb
                have key : ∀ q, wA.cell? ⟨g, q, none⟩ = wr.cell? ⟨g, q, none⟩ := fun q => hcb.cell (p := ⟨g, q, none⟩) hg'
                have hbt : beat xs i j = (b1 || (decide (j < i) && !newer xi xj)) := by
                  unfold beat
                  rw [Hxj.out, Hxi.out, hfj, ← Hb1.out]
                  have : (j != i) = true := by simp; exact hij
                  rw [this]; rfl
                have HBT : Hid _ := hbt
                have Hke : Hid _ := key
                clear hbt key
                cases b1 with
                | true =>
                  have HB : Hid (beat xs i j = true) := by show beat xs i j = true; rw [HBT.out]; rfl
                  go_wp2
                  go_roundw
                  case rel => exact D1.out HB.out _ _ rfl rfl _ hO3
                  case measure => simp [intOf]; omega
                | false =>
                  by_cases hji : j < i
                  · have e50 : decide ((j : Int) < (i : Int)) = true := by simp; exact hji
                    obtain ⟨b2, hb2⟩ : ∃ b, b = newer xi xj := ⟨_, rfl⟩
                    have HB : Hid (beat xs i j = !b2) := by show beat xs i j = !b2; rw [HBT.out, hb2]; simp [hji]
                    have Hb2 : Hid _ := hb2
                    have K : ∀ w', Below wA.heap.size wA w' → Calls Tryf.prog 19 #[.agg (stC xi), .agg (stC xj)] w' (NewB xi xj w') := fun w' hb => newer_any xi xj w' ((hxe.below hcb).below hb) ((hye.below hcb).below hb)
                    unfold stC at K
                    rw [hfj, hf] at K
                    have HK2 : Hid _ := K
                    clear K hb2
                    have hgA : g < wA.heap.size := Nat.lt_of_lt_of_le hg' hcb.size
                    have f0 := (Hke.out _).trans c0
                    have f1 := (Hke.out _).trans c1
                    have f2 := (Hke.out _).trans c2
                    have f3 := (Hke.out _).trans c3
                    have f4 := (Hke.out _).trans c4
                    have f5 := (Hke.out _).trans c5
                    have f6 := (Hke.out _).trans c6
                    have f7 := (Hke.out _).trans c7
                    have f8 := (Hke.out _).trans c8
                    have k0 := (Hke.out _).trans d0
                    have k1 := (Hke.out _).trans d1
                    have k2 := (Hke.out _).trans d2
                    have k3 := (Hke.out _).trans d3
                    have k4 := (Hke.out _).trans d4
                    have k5 := (Hke.out _).trans d5
                    have k6 := (Hke.out _).trans d6
                    have k7 := (Hke.out _).trans d7
                    have k8 := (Hke.out _).trans d8
                    clear c0 c1 c2 c3 c4 c5 c6 c7 c8 d0 d1 d2 d3 d4 d5 d6 d7 d8 HK
                    go_upto_region 13 with fail
                    go_cut [62] from 21 to 64 (fun s62 wx => s62 = .bool (!b2) ∧ Below wA.heap.size wA wx)
                    case first =>
                      go_region_held3 (fun w' => Below wA.heap.size wA w' ∧ ∀ b o, b < wA.heap.size → w'.cell? ⟨b, o, none⟩ = wA.cell? ⟨b, o, none⟩) ((refine ks_of ?_; first | with_reducible assumption | with_reducible exact (Below.refl _ _).drew | with_reducible exact And.left (by assumption))) ((go_at_call 19; refine Calls.mono (HK2.out _ (And.left (by assumption))) ?_; rintro x w4 ⟨rfl, hb4⟩; have B4 := ks_call (w := wA) (by assumption) hb4))
                      all_goals (go_wp2_with fail; go_meet; exact ⟨by rw [Hb2.out], B4⟩)
                    case rest =>
                    rename World => wC
                    obtain ⟨rfl, hcc⟩ := hcut
                    have hO4 := hO3.below hcc
                    cases b2 with
                    | true =>
                      go_wp2
                      go_roundw
                      case rel => exact D0.out HB.out _ rfl _ hO4
                      case measure => simp [intOf]; omega
                    | false =>
                      go_wp2
                      go_roundw
                      case rel => exact D1.out HB.out _ _ rfl rfl _ hO4
                      case measure => simp [intOf]; omega
                  · have e50 : decide ((j : Int) < (i : Int)) = false := by simp; omega
                    have e51 : decide (j < i) = false := by simp; omega
                    have e52 : i ≤ j := by omega
                    have e53 : (i : Int) ≤ (j : Int) := by omega
                    have HB : Hid (beat xs i j = false) := by show beat xs i j = false; rw [HBT.out]; simp [hji]
                    clear c0 c1 c2 c3 c4 c5 c6 c7 c8 d0 d1 d2 d3 d4 d5 d6 d7 d8 HK hji
                    go_upto_region 13 with fail
                    go_quiet (fail)
                    go_wp2
                    go_roundw
                    case rel => exact D0.out HB.out _ rfl _ (hO3.below (below_drewN _ _))
                    case measure => simp [intOf]; omega
          · have ej : j = xs.length := by omega
            subst ej
            have hpn : Hid (p = rk xs i xs.length) := Hp.out
            clear Hp c0 c1 c2 c3 c4 c5 c6 c7 c8
            by_cases hlp : p < n
            · obtain ⟨oc, of⟩ := hO2.cell hlp
              have hO5 := hO2.set (x := i) hlp
              go_wp2
              go_roundw
              case rel => exact ⟨i + 1, by go_num, hlt, by unfold ordf; rw [Hxi.out, hf, ← hpn.out]; simp only [Bool.false_eq_true, if_false, if_pos hlp]; exact hO5⟩
              case measure => simp [intOf]; omega
            · go_wp2
              go_roundw
              case rel => exact ⟨i + 1, by go_num, hlt, by unfold ordf; rw [Hxi.out, hf, ← hpn.out]; simp only [Bool.false_eq_true, if_false, if_neg hlp]; exact hO2⟩
              case measure => simp [intOf]; omega
    · have e : i = xs.length := by omega
      subst e
      go_wp2
      go_ret
      exact ⟨rfl, hO1⟩
end Go.Proofs.Qxb6615733aFmt
