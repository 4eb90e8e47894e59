/-
  Seat b6615733aF: zzBuild: the row of the copies' states.
-/
import Derived.Test.Qxb6615733aFmtWalkF
import Derived.Laws.AppendOwn
namespace Go.Proofs.Qxb6615733aFmt
open Go.RowKit
attribute [local go_sem ↓] Go.wp_at_zero Go.wp_at_succ

/-- blocks that are no row of states stand. -/
def Kp (W W1 : World) : Prop := ∀ (g : Nat) (c : Array Value) (ty : TypeId), ty ≠ 44 → W.heap[g]? = some (.cells c ty) → W1.heap[g]? = some (.cells c ty)
theorem Kp.refl (W : World) : Kp W W := fun _ _ _ _ h => h
theorem Kp.trans {a b c : World} (h : Kp a b) (k : Kp b c) : Kp a c := fun g d ty h1 h2 => k g d ty h1 (h g d ty h1 h2)
theorem Kp.below {W W1 : World} (h : Below W.heap.size W W1) : Kp W W1 := fun g _ _ _ hc => (h.block g (Array.getElem?_eq_some_iff.1 hc).1).trans hc
theorem Kp.grown {W W1 : World} {B n : Nat} {v : Value} {l : List Value} (ho : W.ownsRow B 44 9 v n l) (hg : W.grownBy W1 v.ownBlock) : Kp W W1 := by
  intro g c ty ht hc
  rw [hg.block g (Array.getElem?_eq_some_iff.1 hc).1 ?_]
  · exact hc
  · rcases ho.2 with ⟨rfl, _⟩ | ⟨g2, cap, cur, rfl, _, h2, _⟩
    · simp [Value.ownBlock]
    · simp only [Value.ownBlock]
      intro he
      cases he
      rw [hc] at h2
      simp only [Option.some.injEq, Obj.cells.injEq] at h2
      exact ht h2.2.1
/-- one state's nine cells. -/
def Elem (w : World) (x : St) (cs : List Value) : Prop :=
  ∃ ep err, cs = (csC x ep err).toList ∧ EpN w ep x.es ∧ ((x.failed = true ∧ ∃ b, err = .iface 73 (.pointer (some ⟨b, 0, none⟩)) ∧ ErrAt w b) ∨ (x.failed = false ∧ err = .nilIface))
theorem EpN.kp {w w' : World} {v : Value} {es : List (Int × Int)} (h : EpN w v es) (k : Kp w w') : EpN w' v es := by
  obtain ⟨g, c, hv, hm, hc, hf⟩ := h
  exact ⟨g, c, hv, hm, k g c 58 (by decide) hc, hf⟩
theorem Elem.kp {w w' : World} {x : St} {cs : List Value} (h : Elem w x cs) (k : Kp w w') : Elem w' x cs := by
  obtain ⟨ep, err, h1, h2, h3⟩ := h
  refine ⟨ep, err, h1, h2.kp k, ?_⟩
  rcases h3 with ⟨hf, b, hb, he⟩ | h3
  · exact Or.inl ⟨hf, b, hb, k b _ 75 (by decide) he⟩
  · exact Or.inr h3
/-- the row, i states long. -/
def Bl (B : Nat) (w : World) (xs : List St) (i : Nat) (o : Value) (wr : World) : Prop :=
  ∃ css : List (List Value), css.length = i ∧ (∀ (j : Nat) (cs : List Value), css[j]? = some cs → Elem wr (X xs j) cs) ∧ wr.ownsRow B 44 9 o i css.flatten ∧ Below B w wr
theorem csInfo : ∃ i, Tryf.prog.info? 44 = some i ∧ i.zero = some (.agg #[.string ⟨#[]⟩, .string ⟨#[]⟩, .int .u64 0, .int .u64 0, .int .u64 0, .slice none 0 0, .int .u64 0, .bool false, .nilIface]) ∧ i.size = 9 ∧ i.bytes = 112 := info_parts (by kernel_rfl)

theorem bcell {W w1 : World} (hb : Below W.heap.size W w1) : (∀ b o, b < W.heap.size → w1.cell? ⟨b, o, none⟩ = W.cell? ⟨b, o, none⟩) ∧ (∀ b o, b < W.heap.size → w1.frozen? ⟨b, o, none⟩ = W.frozen? ⟨b, o, none⟩) :=
  ⟨fun b o h => hb.cell (p := ⟨b, o, none⟩) h, fun b o h => hb.frozen (p := ⟨b, o, none⟩) h⟩
theorem ks_alloc {w W : World} (h : Below w.heap.size w W ∧ ∀ b o, b < w.heap.size → W.cell? ⟨b, o, none⟩ = w.cell? ⟨b, o, none⟩) (o : Obj) : Below w.heap.size w (W.alloc o) := h.1.alloc h.1.size o
theorem st_cells {w : World} {B : Nat} {x : St} (h : w.heap[B]? = some (.cells (stC x) 47)) : StAt w B 0 x := by
  unfold stC at h
  exact ⟨(blk_cell h rfl).1, (blk_cell h rfl).1, (blk_cell h rfl).1, (blk_cell h rfl).1, (blk_cell h rfl).1, (blk_cell h rfl).1, (blk_cell h rfl).1, (blk_cell h rfl).1, (blk_cell h rfl).1⟩
def Bo (xs : List St) (w : World) (vo vi : Value) (wr : World) : Prop := ∃ i : Nat, vi = .int .i64 i ∧ i ≤ xs.length ∧ Bl w.heap.size w xs i vo wr
def BuildPost (xs : List St) (w : World) (e : Ending) (w' : World) : Prop := ∃ o, e = .returned o ∧ Bl w.heap.size w xs xs.length o w'
def C5 (B : Nat) (w0 : World) (x : St) (s : Value) (wx : World) : Prop := s = .pointer (some ⟨B, 0, none⟩) ∧ wx.heap[B]? = some (.cells (stC x) 47) ∧ Below w0.heap.size w0 wx ∧ B = w0.heap.size
def C6 (B : Nat) (w0 : World) (x : St) (s : Value) (wx : World) : Prop := s = .pointer (some ⟨B, 0, none⟩) ∧ wx.heap[B]? = some (.cells #[.string x.id, .string x.addr] 35) ∧ Below w0.heap.size w0 wx ∧ B = w0.heap.size
def C7 (w0 : World) (x : St) (s : Value) (wx : World) : Prop := ∃ q ao l c, s = .pointer (some ⟨q, 0, none⟩) ∧ wx.heap[q]? = some (.cells #[.int .u64 x.first, .int .u64 x.last, .int .u64 x.prom, .slice ao l c, .int .u64 x.bytes, .bool x.lost] 40) ∧ EpN wx (.slice ao l c) x.es ∧ Below w0.heap.size w0 wx

theorem EpN.set {w : World} {v : Value} {es : List (Int × Int)} {q i : Nat} {z : Array Value} {u : Value} (h : EpN w v es) (hq : w.heap[q]? = some (.cells z 40)) : EpN (w.setCell ⟨q, i, none⟩ u) v es := by
  obtain ⟨g, c, hv, hm, hc, hf⟩ := h
  refine ⟨g, c, hv, hm, ?_, hf⟩
  rw [Below.heap_setCell w ⟨q, i, none⟩ u g ?_]
  · exact hc
  · intro e
    have e' : g = q := e
    subst e'
    rw [hq] at hc
    simp only [Option.some.injEq, Obj.cells.injEq] at hc
    exact absurd hc.2.1 (by decide)
theorem c7_alloc {w0 w4 : World} {x : St} {ao : Option Addr} {l c : Nat} (hb : Below w0.heap.size w0 w4) (he : EpN w4 (.slice ao l c) x.es) : C7 w0 x (.pointer (some ⟨w4.heap.size, 0, none⟩)) (w4.alloc (.cells #[.int .u64 x.first, .int .u64 x.last, .int .u64 x.prom, .slice ao l c, .int .u64 x.bytes, .bool x.lost] 40)) :=
  ⟨_, ao, l, c, rfl, heap_new _ _, he.kp (Kp.below ((Below.refl _ _).alloc (Nat.le_refl _) _)), hb.alloc hb.size _⟩
theorem c7_set {w0 w4 : World} {x : St} {ao : Option Addr} {l c q : Nat} {z0 z1 z2 z3 z4 z5 : Value} (hb : Below w0.heap.size w0 w4) (hq0 : w0.heap.size ≤ q) (hq : w4.heap[q]? = some (.cells #[z0, z1, z2, z3, z4, z5] 40)) (he : EpN w4 (.slice ao l c) x.es) :
    C7 w0 x (.pointer (some ⟨q, 0, none⟩)) ((((((w4.setCell ⟨q, 0, none⟩ (.int .u64 x.first)).setCell ⟨q, 1, none⟩ (.int .u64 x.last)).setCell ⟨q, 2, none⟩ (.int .u64 x.prom)).setCell ⟨q, 3, none⟩ (.slice ao l c)).setCell ⟨q, 4, none⟩ (.int .u64 x.bytes)).setCell ⟨q, 5, none⟩ (.bool x.lost)) := by
  have s0 := setCell_at (i := 0) hq (.int .u64 x.first)
  have s1 := setCell_at (i := 1) s0 (.int .u64 x.last)
  have s2 := setCell_at (i := 2) s1 (.int .u64 x.prom)
  have s3 := setCell_at (i := 3) s2 (.slice ao l c)
  have s4 := setCell_at (i := 4) s3 (.int .u64 x.bytes)
  have s5 := setCell_at (i := 5) s4 (.bool x.lost)
  refine ⟨q, ao, l, c, rfl, s5, (((((he.set hq).set s0).set s1).set s2).set s3).set s4, ?_⟩
  exact (((((hb.setCell (p := ⟨q, 0, none⟩) hq0 _).setCell (p := ⟨q, 1, none⟩) hq0 _).setCell (p := ⟨q, 2, none⟩) hq0 _).setCell (p := ⟨q, 3, none⟩) hq0 _).setCell (p := ⟨q, 4, none⟩) hq0 _).setCell (p := ⟨q, 5, none⟩) hq0 _
theorem own_slice {w : World} {B : Nat} {e : TypeId} {s : Nat} {v : Value} {n : Nat} {xs : List Value} (h : w.ownsRow B e s v n xs) : ∃ ao m c, v = .slice ao m c := by
  rcases h.2 with ⟨rfl, _⟩ | ⟨g, cap, cur, rfl, _⟩
  · exact ⟨_, _, _, rfl⟩
  · exact ⟨_, _, _, rfl⟩
theorem own_below {w w' : World} {B : Nat} {e : TypeId} {s : Nat} {v : Value} {n : Nat} {xs : List Value} (h : w.ownsRow B e s v n xs) (hb : Below w.heap.size w w') : w'.ownsRow B e s v n xs := by
  refine ⟨h.1, ?_⟩
  rcases h.2 with hn | ⟨g, cap, cur, rfl, h1, hgg, rest⟩
  · exact .inl hn
  · exact .inr ⟨g, cap, cur, rfl, h1, (hb.block g (Array.getElem?_eq_some_iff.1 hgg).1).trans hgg, rest⟩
theorem app_cells (w : World) (l : List Value) (ty : TypeId) : ∀ j u, l[j]? = some u → (w.alloc (.cells l.toArray ty)).cell? ((⟨w.heap.size, 0, none⟩ : Addr).add j) = some u := by
  intro j u hj
  have hb := heap_new w (.cells l.toArray ty)
  have hc := (blk_cell (i := j) (x := u) hb (by simpa using hj)).1
  unfold Addr.add
  split
  · rename_i h; subst h; exact hc
  · simpa using hc
/-- the row has grown by one state. -/
theorem Bl.next {w wr w5 w6 : World} {xs : List St} {i : Nat} {u v' : Value} {css : List (List Value)} {cs : List Value} {o : Obj} (hl : css.length = i) (hel : ∀ (j : Nat) (cs : List Value), css[j]? = some cs → Elem wr (X xs j) cs) (how : w5.ownsRow w.heap.size 44 9 u i css.flatten) (bel : Below w.heap.size w wr) (hb : Below wr.heap.size wr w5)
    (hnew : Elem w5 (X xs i) cs) (ho : w6.ownsRow w.heap.size 44 9 v' (i + 1) (css.flatten ++ cs)) (hg : (w5.alloc o).grownBy w6 u.ownBlock) : Bl w.heap.size w xs (i + 1) v' w6 := by
  have bel5 : Below w.heap.size w w5 := bel.trans (hb.mono bel.size)
  have k5 : Kp w5 w6 := (Kp.below ((Below.refl _ _).alloc (Nat.le_refl _) o)).trans (Kp.grown (World.ownsRow.alloc how o) hg)
  have k0 : Kp wr w6 := (Kp.below hb).trans k5
  refine ⟨css ++ [cs], by simp [hl], fun j ds hj => ?_, by simpa using ho, (bel5.alloc bel5.size o).grown hg (by have := bel5.size; simp only [World.size_alloc]; omega) (fun k e => (World.ownsRow.lt how k e).1)⟩
  by_cases c : j < css.length
  · rw [List.getElem?_append_left c] at hj
    exact (hel j ds hj).kp k0
  · have hj2 := (List.getElem?_eq_some_iff.1 hj).1
    simp only [List.length_append, List.length_singleton] at hj2
    have e : j = i := by omega
    subst e
    rw [List.getElem?_append_right (by omega), hl] at hj
    simp at hj
    subst hj
    exact hnew.kp k5
set_option maxHeartbeats 8000000 in
set_option maxRecDepth 100000 in
theorem build_any (xs : List St) (v : Value) (w : World) (h : Arg w v xs) (hn : xs.length ≤ 4096) (hes : ∀ (i : Nat) (x : St), xs[i]? = some x → x.es.length ≤ 65536) : Calls Tryf.prog 7 #[v] w (BuildPost xs w) := by
  have harg := h
  obtain ⟨ao, cp, rfl, hcp, hm, hst, hep⟩ := h
  have HA : Hid (Arg w _ xs) := harg
  have HES : Hid _ := hes
  clear hst hep hm harg hes
  obtain ⟨i44, hi, hz, hz1, hz2⟩ := csInfo
  obtain ⟨w0, hmk, how, hgr⟩ := run_make_own (P := Tryf.prog) w w.heap.size 26 44 i44 _ 9 Tryf.underlying26 hi hz hz1 .i64 .i64 xs.length (by rw [hz2]; omega) (by unfold maxLen; omega) (Nat.le_refl _)
  have hB0 : Bl w.heap.size w xs 0 (.slice (some ⟨w.heap.size, 0, none⟩) 0 xs.length) w0 := ⟨[], rfl, fun j cs h => by simp at h, how, (Below.refl _ w).grown hgr (Nat.le_refl _) (fun k hk => by cases hk)⟩
  clear how hgr
  go_enter Tryf.func7, Tryf.ntmps7
  go_wp2_with fail
  clear hmk
  go_loopw [3, 4] (fun vo vi wr => Bo xs w vo vi wr) (fun _ vi _ => xs.length - (intOf vi).toNat)
  case atStart => exact ⟨0, rfl, Nat.zero_le _, hB0⟩
  case round =>
    obtain ⟨i, rfl, hi', hB⟩ := hrel
    clear hB0
    by_cases hlt : i < xs.length
    · obtain ⟨css, hl, hel, how, bel⟩ := hB
      have HEL : Hid _ := hel
      clear hel
      obtain ⟨ao', cp', hv', _, _, hst, hep⟩ := HA.out.below bel
      cases hv'
      obtain ⟨g, o, rfl, hg, hs⟩ := hst (by omega)
      have hx0 := hs i _ (X_at xs i hlt)
      have hx1 := (hep i _ (X_at xs i hlt)).1
      have hx2 := HES.out i _ (X_at xs i hlt)
      obtain ⟨x, hx⟩ : ∃ x, X xs i = x := ⟨_, rfl⟩
      rw [hx] at hx0 hx1 hx2
      have Hx : Hid _ := hx
      obtain ⟨c0, c1, c2, c3, c4, c5, c6, c7, c8⟩ := hx0
      obtain ⟨a5, p5, hv5, _⟩ := id hx1
      have HX1 : Hid _ := hx1
      rw [hv5] at c5
      have Hv5 : Hid _ := hv5
      clear hv5
      clear hst hep hs hx hx1
      go_upto_region 5 with fail
      go_cut [5] from 11 to 53 (fun s5 wx => C5 wr.heap.size wr x s5 wx)
      case first =>
        go_wp2_with fail
        go_meet
        exact ⟨rfl, by rw [heap_new]; unfold stC; rw [Hv5.out], (Below.refl _ _).alloc (Nat.le_refl _) _, rfl⟩
      case rest =>
      rename World => wA
      obtain ⟨rfl, b5, bel5, _⟩ := hcut
      obtain ⟨k0, k1, k2, k3, k4, k5, k6, k7, k8⟩ := st_cells b5
      rw [Hv5.out] at k5
      have zA : wr.heap.size < wA.heap.size := (Array.getElem?_eq_some_iff.1 b5).1
      clear c0 c1 c2 c3 c4 c5 c6 c7 c8
      go_upto_region 6 with fail
      go_cut [6] from 11 to 53 (fun s6 wx => C6 wA.heap.size wA x s6 wx)
      case first =>
        go_wp2_with fail
        go_meet
        exact ⟨rfl, heap_new _ _, (Below.refl _ _).alloc (Nat.le_refl _) _, rfl⟩
      case rest =>
      rename World => wB
      obtain ⟨rfl, b6, bel6, _⟩ := hcut
      have b5' := (bel6.block _ zA).trans b5
      have zB : wA.heap.size < wB.heap.size := (Array.getElem?_eq_some_iff.1 b6).1
      have zB2 : wr.heap.size < wB.heap.size := by omega
      clear k0 k1 k2 k3 k4 k5 k6 k7 k8
      obtain ⟨k0, k1, k2, k3, k4, k5, k6, k7, k8⟩ := st_cells b5'
      rw [Hv5.out] at k5
      have bB : Below wr.heap.size wr wB := bel5.trans (bel6.mono bel5.size)
      have K : ∀ w', Below wB.heap.size wB w' → Calls Tryf.prog 15 #[.slice a5 x.es.length p5] w' (EpPost x.es w') := fun w' hb => by
        have := ((Ep.below HX1.out bB).below hb)
        rw [Hv5.out] at this
        exact epochs_any _ _ _ this hx2
      have HK : Hid _ := K
      clear K
      go_upto_region 7 with fail
      go_cut [7] from 11 to 53 (fun s7 wx => C7 wB x s7 wx)
      case first =>
        go_region_held3 (fun w' => Below wB.heap.size wB w' ∧ ∀ b o, b < wB.heap.size → w'.cell? ⟨b, o, none⟩ = wB.cell? ⟨b, o, none⟩) ((refine ks_of ?_; first | with_reducible assumption | with_reducible exact (Below.refl _ _).drew | with_reducible exact And.left (by assumption) | with_reducible exact (Below.alloc (Below.refl _ _) (Nat.le_refl _) _).drew | with_reducible exact ks_alloc (by assumption) _ | with_reducible exact Below.alloc (by assumption) (by assumption) _ | ((repeat (with_reducible refine Below.setCell ?_ (by first | with_reducible assumption | with_reducible exact Nat.le_refl _) _)); (first | with_reducible assumption | with_reducible exact And.left (by assumption))))) ((go_at_call 15; refine Calls.mono (HK.out _ (And.left (by assumption))) ?_; rintro y w4 ⟨v4, rfl, hep4, hb4⟩; obtain ⟨g4, c4, hv4, _⟩ := id hep4; subst hv4; have B4 := ks_call (w := wB) (by assumption) hb4; have z4 := B4.size; have k4 := hb4.size; (try simp only [World.size_alloc, World.size_drew] at k4); obtain ⟨hc4, hf4⟩ := bcell hb4))
        · go_wp2_with fail
          go_meet
          exact c7_alloc B4 hep4
        · go_wp2_with fail
          go_meet
          exact c7_set B4 (Nat.le_refl _) ((hb4.block _ (by simp only [World.size_alloc, World.size_drew]; omega)).trans (heap_new _ _)) hep4
      case rest =>
      rename World => wC
      obtain ⟨q, ao7, l7, c7', rfl, b7, hep7, bel7⟩ := hcut
      have belC : Below wr.heap.size wr wC := bB.trans (bel7.mono bB.size)
      have n5 := (bel7.block _ zB2).trans b5'
      have n6 := (bel7.block _ zB).trans b6
      clear k0 k1 k2 k3 k4 k5 k6 k7 k8 b5' b5 HK bel5 bel6
      obtain ⟨_, _, _, _, _, _, _, _, k8⟩ := st_cells n5
      have n0 := (blk_cell (i := 0) n6 rfl).1
      have n1 := (blk_cell (i := 1) n6 rfl).1
      have m0 := (blk_cell (i := 0) b7 rfl).1
      have m1 := (blk_cell (i := 1) b7 rfl).1
      have m2 := (blk_cell (i := 2) b7 rfl).1
      have m3 := (blk_cell (i := 3) b7 rfl).1
      have m4 := (blk_cell (i := 4) b7 rfl).1
      have m5 := (blk_cell (i := 5) b7 rfl).1
      obtain ⟨auo, muo, cuo, rfl⟩ := own_slice how
      cases hf : x.failed with
      | true =>
        rw [hf] at k8
        go_wp2_with fail
        refine (failed_any x ao7 l7 c7' wC).mono ?_
        rintro y w5 ⟨b9, rfl, he9, hb5⟩
        have bel5c : Below wr.heap.size wr w5 := belC.trans (hb5.mono belC.size)
        have how5 := own_below how bel5c
        have hnew : Elem w5 (X xs i) (csC x (.slice ao7 l7 c7') (.iface 73 (.pointer (some ⟨b9, 0, none⟩)))).toList := by
          rw [Hx.out]
          exact ⟨_, _, rfl, hep7.kp (Kp.below hb5), Or.inl ⟨hf, _, rfl, he9⟩⟩
        have zw : w.heap.size ≤ w5.heap.size := by have := bel.size; have := bel5c.size; omega
        unfold csC
        unfold csC at hnew
        go_wp2_with (at_builtin; refine wpList_append_own _ rfl _ _ 26 rfl w.heap.size 44 i44 _ 9 112 Tryf.underlying26 hi hz hz1 hz2 rfl (by decide) _ _ _ rfl (World.ownsRow.alloc how5 _) ⟨w5.heap.size, 0, none⟩ 1 1 [.string x.id, .string x.addr, .int .u64 x.first, .int .u64 x.last, .int .u64 x.prom, .slice ao7 l7 c7', .int .u64 x.bytes, .bool x.lost, (.iface 73 (.pointer (some ⟨b9, 0, none⟩)))] rfl rfl (app_cells _ _ _) (by intro u hu; simp at hu; rcases hu with rfl | rfl | rfl | rfl | rfl | rfl | rfl | rfl | rfl <;> rfl) (by unfold maxLen; omega) (by omega) (by simp; omega) ?_)
        intro v6 w6 how6 hgr6 _
        have hB6 := Bl.next hl HEL.out how5 bel bel5c hnew how6 hgr6
        clear how6 hgr6 hnew how5
        go_wp2
        go_roundw
        case rel => exact ⟨i + 1, by go_num, hlt, hB6⟩
        case measure => simp [intOf]; omega
      | false =>
        rw [hf] at k8
        go_wp2_with fail
        refine (answered_any x ao7 l7 c7' wC).mono ?_
        rintro y w5 ⟨rfl, hb5⟩
        have bel5c : Below wr.heap.size wr w5 := belC.trans (hb5.mono belC.size)
        have how5 := own_below how bel5c
        have hnew : Elem w5 (X xs i) (csC x (.slice ao7 l7 c7') .nilIface).toList := by
          rw [Hx.out]
          exact ⟨_, _, rfl, hep7.kp (Kp.below hb5), Or.inr ⟨hf, rfl⟩⟩
        have zw : w.heap.size ≤ w5.heap.size := by have := bel.size; have := bel5c.size; omega
        unfold csC
        unfold csC at hnew
        go_wp2_with (at_builtin; refine wpList_append_own _ rfl _ _ 26 rfl w.heap.size 44 i44 _ 9 112 Tryf.underlying26 hi hz hz1 hz2 rfl (by decide) _ _ _ rfl (World.ownsRow.alloc how5 _) ⟨w5.heap.size, 0, none⟩ 1 1 [.string x.id, .string x.addr, .int .u64 x.first, .int .u64 x.last, .int .u64 x.prom, .slice ao7 l7 c7', .int .u64 x.bytes, .bool x.lost, .nilIface] rfl rfl (app_cells _ _ _) (by intro u hu; simp at hu; rcases hu with rfl | rfl | rfl | rfl | rfl | rfl | rfl | rfl | rfl <;> rfl) (by unfold maxLen; omega) (by omega) (by simp; omega) ?_)
        intro v6 w6 how6 hgr6 _
        have hB6 := Bl.next hl HEL.out how5 bel bel5c hnew how6 hgr6
        clear how6 hgr6 hnew how5
        go_wp2
        go_roundw
        case rel => exact ⟨i + 1, by go_num, hlt, hB6⟩
        case measure => simp [intOf]; omega
    · have e : i = xs.length := by omega
      subst e
      go_wp2
      go_ret
      exact ⟨_, rfl, hB⟩
end Go.Proofs.Qxb6615733aFmt
