/-
  Seat b6615733aF: the walk of FnNewestFirstIsStableRankOrder.
-/
import Derived.Test.Qxb6615733aFmtPlainR
import Derived.Test.Qxb6615733aFmtWalkB
import Derived.Test.Qxb6615733aFmtWalkE
namespace Go.Proofs.Qxb6615733aFmt
open Go.RowKit
open Go.Extern.Stop Go.Stop Go.Extern
attribute [local go_sem ↓] Go.wp_at_zero Go.wp_at_succ

theorem bl_src {w w1 : World} {xs : List St} {o : Value} (h : Bl w.heap.size w xs xs.length o w1) : ∃ (po : Option Addr) (g cap : Nat) (cs : Nat → List Value), o = .slice po xs.length cap ∧ (0 < xs.length → po = some ⟨g, 0, none⟩) ∧ Src w1 xs cs g cap := by
  obtain ⟨css, hl, hel, how, bel⟩ := h
  have hcs : ∀ j, j < xs.length → css[j]? = some ((css[j]?).getD []) := fun j hj => by rw [getSome (by omega)]; rfl
  have h9 : ∀ y ∈ css, y.length = 9 := fun y hy => by
    obtain ⟨j, hj, rfl⟩ := List.mem_iff_getElem.1 hy
    obtain ⟨ep, err, he, _⟩ := hel j _ (getSome hj)
    rw [he]; rfl
  rcases how.2 with ⟨rfl, h0⟩ | ⟨g, cp, cur, rfl, hB, hG, hc, _, hsz, htk⟩
  · exact ⟨none, 0, 0, fun j => (css[j]?).getD [], by rw [h0], fun h => by omega, ⟨fun h => by omega, fun i hi => by omega, fun i hi => by omega, by omega⟩⟩
  · refine ⟨some ⟨g, 0, none⟩, g, cp, fun j => (css[j]?).getD [], rfl, fun _ => rfl, ⟨fun _ => (Array.getElem?_eq_some_iff.1 hG).1, fun i hi k u hu => ?_, fun i hi => hel i _ (hcs i hi), hc⟩⟩
    have hk : k < 9 := by
      have := (List.getElem?_eq_some_iff.1 hu).1
      rwa [h9 _ (List.mem_of_getElem? (hcs i hi))] at this
    have hfl := flat9 _ i k _ u h9 (hcs i hi) hu
    rw [← htk, List.getElem?_take_of_lt (by omega), Array.getElem?_toList] at hfl
    exact (blk_cell hG hfl).1
def Lw (n : Nat) (w3 : World) (vp : Value) (wr : World) : Prop := ∃ p : Nat, vp = .int .i64 p ∧ p ≤ n ∧ Below w3.heap.size w3 wr

set_option maxHeartbeats 8000000 in
set_option maxRecDepth 100000 in
theorem law_any (F : Interp) (xs : List St) (v : Value) (w : World) (hF : F.answers w.tape) (h : Arg w v xs) : Calls Tryf.prog 3 #[v] w (TrueB w) := by
  have harg := h
  obtain ⟨ao, cp, rfl, hcp, hm, hst, hep⟩ := h
  unfold maxLen at hm
  have HA : Hid (Arg w (.slice ao xs.length cp) xs) := harg
  clear hst hep harg
  go_enter Tryf.func3, Tryf.ntmps3
  go_wp2_with fail
  refine (bytes_any xs _ w HA.out).mono ?_
  rintro e w' ⟨b, rfl, rfl⟩
  cases b with
  | false =>
    go_wp2
    go_ret
    exact ⟨rfl, Below.refl _ _⟩
  | true =>
  by_cases hbig : 4096 < (xs.length : Int)
  · go_wp2
    go_ret
    exact ⟨rfl, Below.refl _ _⟩
  have hn : xs.length ≤ 4096 := by omega
  go_wp2_with fail
  refine (fit_any xs _ w HA.out hn).mono ?_
  rintro e w' ⟨z, b, rfl, rfl, hfit⟩
  cases b with
  | false =>
    clear hfit
    go_wp2
    go_ret
    exact ⟨rfl, Below.refl _ _⟩
  | true =>
  have HFIT : Hid _ := hfit rfl
  clear hfit
  go_wp2_with fail
  refine (build_any xs _ w HA.out hn HFIT.out).mono ?_
  rintro e w1 ⟨o, rfl, hBl⟩
  have B1 : Below w.heap.size w w1 := hBl.choose_spec.2.2.2
  obtain ⟨po, g, cap, cs, rfl, hpo, hS⟩ := bl_src hBl
  clear hBl
  go_wp2_with fail
  refine (newestFirst_any F xs cs po g cap w1 (by rw [B1.tape]; exact hF) hpo hS hn).mono ?_
  rintro e w2 ⟨aa, ac, fa, fc, d, rfl, B2, hsrt, hrch, hrow⟩
  have B02 : Below w.heap.size w w2 := B1.trans (B2.mono B1.size)
  go_wp2_with fail
  refine (order_any xs _ w2 (HA.out.below B02) hn).mono ?_
  rintro e w3 ⟨rfl, hO⟩
  rw [nAns_af] at hO ⊢
  obtain ⟨n, hnn⟩ : ∃ n, (af xs xs.length).length = n := ⟨_, rfl⟩
  have hnle : n ≤ xs.length := by rw [← hnn]; exact af_le xs xs.length
  rw [hnn] at hO hrow ⊢
  have B03 : Below w.heap.size w w3 := B02.trans (hO.1.mono B02.size)
  have HSRT : Hid _ := hsrt
  have HRCH : Hid _ := hrch
  have HROW : Hid _ := hrow
  have HO : Hid _ := hO
  have HN : Hid _ := hnn
  have HSr : Hid (Src w1 xs cs g cap) := hS
  clear hsrt hrch hrow hO hnn hS hpo
  have e43 : (((xs.length - n : Nat) : Int) != (xs.length : Int) - (n : Int)) = false := by simp; omega
  go_wp2_with fail
  go_loopw [8] (fun vp wr => Lw n w3 vp wr) (fun vp _ => n - (intOf vp).toNat)
  case atStart => exact ⟨0, rfl, Nat.zero_le _, Below.refl _ _⟩
  case round =>
    obtain ⟨p, rfl, hpn, hb3⟩ := hrel
    by_cases hlt : p < n
    · obtain ⟨G, c, haa, hac, hG, hc⟩ := HROW.out (by omega)
      subst haa
      have hpaf : p < (af xs xs.length).length := by rw [HN.out]; exact hlt
      have hord := ordf_at HSRT.out HRCH.out hpaf xs.length (Nat.le_refl _) (af_mem (idx_mem (xs := xs) (by omega) (d p))).1
      rw [HN.out] at hord
      obtain ⟨j, hj⟩ : ∃ j, idx xs (d p) = j := ⟨_, rfl⟩
      have hjm : j ∈ af xs xs.length := by rw [← hj]; exact idx_mem (by omega) _
      rw [hj] at hord
      have hjl : j < xs.length := (af_mem hjm).1
      have hjf := (af_mem hjm).2
      obtain ⟨hcs, hepj⟩ := good_cs HSr.out hjm
      obtain ⟨x, hx⟩ : ∃ x, X xs j = x := ⟨_, rfl⟩
      rw [hx] at hcs hepj hjf
      obtain ⟨ev, hev⟩ : ∃ ev, eo (((cs j)[5]?).getD .nilIface) = ev := ⟨_, rfl⟩
      rw [hev] at hcs hepj
      -- the row of those that answered
      have zG : G < w2.heap.size := (Array.getElem?_eq_some_iff.1 hG).1
      have z23 := HO.out.1.size
      have z3r := hb3.size
      have b2r : Below w2.heap.size w2 wr := HO.out.1.trans (hb3.mono z23)
      have hGr : wr.heap[G]? = some (.cells c 44) := (b2r.block G zG).trans hG
      have key : ∀ k u, (cs j)[k]? = some u → wr.cell? ⟨G, p * 9 + k, none⟩ = some u := fun k u hu => (blk_cell hGr (hc p k u hlt (by rw [hj]; exact hu))).1
      rw [hcs] at key
      have a0 : wr.cell? ⟨G, p * 9, none⟩ = some (.string x.id) := key 0 _ rfl
      have a1 : wr.cell? ⟨G, p * 9 + 1, none⟩ = some (.string x.addr) := key 1 _ rfl
      have a2 : wr.cell? ⟨G, p * 9 + 2, none⟩ = some (.int .u64 x.first) := key 2 _ rfl
      have a3 : wr.cell? ⟨G, p * 9 + 3, none⟩ = some (.int .u64 x.last) := key 3 _ rfl
      have a4 : wr.cell? ⟨G, p * 9 + 4, none⟩ = some (.int .u64 x.prom) := key 4 _ rfl
      have a5 : wr.cell? ⟨G, p * 9 + 5, none⟩ = some (.slice ev x.es.length x.es.length) := key 5 _ rfl
      have a6 : wr.cell? ⟨G, p * 9 + 6, none⟩ = some (.int .u64 x.bytes) := key 6 _ rfl
      have a7 : wr.cell? ⟨G, p * 9 + 7, none⟩ = some (.bool x.lost) := key 7 _ rfl
      have a8 : wr.cell? ⟨G, p * 9 + 8, none⟩ = some .nilIface := key 8 _ rfl
      -- the order
      have zo : w2.heap.size < w3.heap.size := Ow.lt HO.out
      have o0 : wr.cell? ⟨w2.heap.size, p, none⟩ = some (.int .i64 (j : Int)) := by
        have := (Ow.cell (Ow.below HO.out hb3) hlt).1
        rw [hord] at this; exact this
      -- the states
      have b0r : Below w.heap.size w wr := B03.trans (hb3.mono B03.size)
      obtain ⟨ao', cp', hv', _, _, hst, hep⟩ := HA.out.below b0r
      cases hv'
      obtain ⟨g0, q0, rfl, hg0, hs⟩ := hst (by omega)
      have hx0 := hs j _ (X_at xs j hjl)
      have hxe := (hep j _ (X_at xs j hjl)).1
      rw [hx] at hx0 hxe
      obtain ⟨c0, c1, c2, c3, c4, c5, c6, c7, c8⟩ := hx0
      rw [hjf] at c8
      obtain ⟨a5', p5, hv5, _⟩ := id hxe
      have hepr : Ep wr (.slice ev x.es.length x.es.length) x.es := (hepj.kp (Kp.below (B2.trans (b2r.mono B2.size)))).ep
      have K : ∀ w', Below wr.heap.size wr w' → Calls Tryf.prog 9 #[.agg (csC x (.slice ev x.es.length x.es.length) .nilIface), .agg (stC x)] w' (TrueB w') := fun w' hb => sameAs_any x _ w' hjf (hxe.below hb) (hepr.below hb)
      unfold csC stC at K
      rw [hjf, hv5] at K
      rw [hv5] at c5
      have HK : Hid _ := K
      have i1 : (0 : Int) ≤ (j : Int) := by omega
      have i2 : (j : Int) < (xs.length : Int) := by omega
      have i3 : (0 : Int) ≤ (p : Int) := by omega
      have i4 : (p : Int) < (n : Int) := by omega
      have zGr : G < wr.heap.size := by omega
      have zor : w2.heap.size < wr.heap.size := by omega
      clear K hxe hepr hepj hcs hev hord hc hG hGr key hst hep hs hv5 hx hj hpaf hjm
      go_upto_region 15 with fail
      go_cut [63] from 45 to 63 (fun s63 wx => s63 = .bool false ∧ Below wr.heap.size wr wx)
      case first =>
        go_region_held3 (fun w' => Below wr.heap.size wr w' ∧ ∀ b o, b < wr.heap.size → w'.cell? ⟨b, o, none⟩ = wr.cell? ⟨b, o, none⟩) ((refine ks_of ?_; first | with_reducible assumption | with_reducible exact (Below.refl _ _).drew | with_reducible exact And.left (by assumption))) ((go_at_call 9; refine Calls.mono (HK.out _ (And.left (by assumption))) ?_; rintro y w4 ⟨rfl, hb4⟩; have B4 := ks_call (w := wr) (by assumption) hb4))
        all_goals (go_wp2_with fail; go_meet; exact ⟨rfl, B4⟩)
      case rest =>
      rename World => wC
      obtain ⟨rfl, hcc⟩ := hcut
      have hb4 : Below w3.heap.size w3 wC := hb3.trans (hcc.mono hb3.size)
      go_wp2
      go_roundw
      case rel => exact ⟨p + 1, by go_num, hlt, hb4⟩
      case measure => simp [intOf]; omega
    · go_wp2
      go_ret
      exact ⟨rfl, B03.trans (hb3.mono B03.size)⟩
end Go.Proofs.Qxb6615733aFmt
