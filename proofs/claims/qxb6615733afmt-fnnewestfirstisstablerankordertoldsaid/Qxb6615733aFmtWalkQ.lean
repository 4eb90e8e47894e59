/-
  Seat b6615733aF: NewestFirst.
-/
import Derived.Test.Qxb6615733aFmtWalkH
import Derived.Test.Qxb6615733aFmtWalkP
namespace Go.Proofs.Qxb6615733aFmt
open Go.RowKit
open Go.Extern.Stop Go.Stop Go.Extern

/-- a row stays where no block of its kind is turned. -/
theorem own_keep {W W1 : World} {B : Nat} {e : TypeId} {s : Nat} {v : Value} {n : Nat} {l : List Value} (h : W.ownsRow B e s v n l) (hk : ∀ (g : Nat) (c : Array Value), W.heap[g]? = some (.cells c e) → W1.heap[g]? = some (.cells c e)) : W1.ownsRow B e s v n l := by
  refine ⟨h.1, ?_⟩
  rcases h.2 with hn | ⟨g, cap, cur, rfl, h1, hgg, rest⟩
  · exact .inl hn
  · exact .inr ⟨g, cap, cur, rfl, h1, hk g cur hgg, rest⟩
/-- a row of another kind has grown. -/
theorem grown_keep {W W1 : World} {B : Nat} {e : TypeId} {s n : Nat} {v : Value} {l : List Value} (ho : W.ownsRow B e s v n l) (hg : W.grownBy W1 v.ownBlock) {g : Nat} {c : Array Value} {ty : TypeId} (ht : ty ≠ e) (hc : W.heap[g]? = some (.cells c ty)) : W1.heap[g]? = some (.cells c ty) := by
  rw [hg.block g (Array.getElem?_eq_some_iff.1 hc).1 ?_]
  · exact hc
  · rcases ho.2 with ⟨rfl, _⟩ | ⟨g2, cap, cur, rfl, _, h2, _⟩
    · simp [Value.ownBlock]
    · simp only [Value.ownBlock]
      intro he
      cases he
      rw [hc] at h2
      simp only [Option.some.injEq, Obj.cells.injEq] at h2
      exact ht h2.2.1
theorem alloc_keep {W : World} {o : Obj} {g : Nat} {x : Obj} (h : W.heap[g]? = some x) : (W.alloc o).heap[g]? = some x := by
  rw [Below.heap_alloc _ _ _ (Array.getElem?_eq_some_iff.1 h).1]; exact h
/-- who answered, among the first i. -/
def af (xs : List St) (i : Nat) : List Nat := (List.range i).filter fun j => !(X xs j).failed
theorem af_succ (xs : List St) (i : Nat) : af xs (i + 1) = if (X xs i).failed then af xs i else af xs i ++ [i] := by
  unfold af
  rw [List.range_succ, List.filter_append]
  cases h : (X xs i).failed <;> simp [h]
theorem af_le (xs : List St) (i : Nat) : (af xs i).length ≤ i := by
  unfold af
  have := List.length_filter_le (fun j => !(X xs j).failed) (List.range i)
  rwa [List.length_range] at this
theorem strInfo : ∃ i, Tryf.prog.info? 9 = some i ∧ i.zero = some (.string ⟨#[]⟩) ∧ i.size = 1 ∧ i.bytes = 16 := info_parts (by kernel_rfl)
/-- the loop's state. -/
structure Nl (xs : List St) (cs : Nat → List Value) (w : World) (i : Nat) (fv a : Value) (wr : World) : Prop where
  bel : Below w.heap.size w wr
  box : wr.heap[w.heap.size]? = some (.cells #[a] 26)
  ans : wr.ownsRow w.heap.size 44 9 a (af xs i).length ((af xs i).map cs).flatten
  fls : ∃ l, wr.ownsRow w.heap.size 9 1 fv (i - (af xs i).length) l
def Nf (xs : List St) (cs : Nat → List Value) (w : World) (vf vi : Value) (wr : World) : Prop := ∃ (i : Nat) (a : Value), vi = .int .i64 i ∧ i ≤ xs.length ∧ Nl xs cs w i vf a wr
/-- the states came as a row of the caller's. -/
structure Src (w : World) (xs : List St) (cs : Nat → List Value) (g cap : Nat) : Prop where
  lt : 0 < xs.length → g < w.heap.size
  cell : ∀ i, i < xs.length → ∀ k u, (cs i)[k]? = some u → w.cell? ⟨g, i * 9 + k, none⟩ = some u
  elem : ∀ i, i < xs.length → Elem w (X xs i) (cs i)
  cap : xs.length ≤ cap
/-- one that failed. -/
theorem Nl.fail {xs : List St} {cs : Nat → List Value} {w wr w1 w5 w6 : World} {i : Nat} {fv a v6 : Value} {o1 o5 : Obj} {s : Value} {l : List Value} (h : Nl xs cs w i fv a wr) (h1 : w1 = wr.alloc o1) (hb : Below w1.heap.size w1 w5) (hf : (X xs i).failed = true) (hl : w5.ownsRow w.heap.size 9 1 fv (i - (af xs i).length) l)
    (ho : w6.ownsRow w.heap.size 9 1 v6 (i - (af xs i).length + 1) (l ++ [s])) (hg : (w5.alloc o5).grownBy w6 fv.ownBlock) : Nl xs cs w (i + 1) v6 a w6 := by
  subst h1
  have hw : Below w.heap.size w w5 := (h.bel.alloc h.bel.size o1).trans (hb.mono (by have := h.bel.size; simp only [World.size_alloc]; omega))
  have hle := af_le xs i
  have hla := World.ownsRow.alloc hl o5
  have key : ∀ (g : Nat) (c : Array Value) (ty : TypeId), ty ≠ 9 → wr.heap[g]? = some (.cells c ty) → w6.heap[g]? = some (.cells c ty) := fun g c ty ht hc => by
    have k1 := alloc_keep (o := o1) hc
    have k2 := (hb.block g (Array.getElem?_eq_some_iff.1 k1).1).trans k1
    exact grown_keep hla hg ht (alloc_keep (o := o5) k2)
  refine ⟨(hw.alloc hw.size o5).grown hg (by have := hw.size; simp only [World.size_alloc]; omega) (fun k e => (World.ownsRow.lt hl k e).1), key _ _ 26 (by decide) h.box, ?_, ⟨l ++ [s], ?_⟩⟩
  · rw [af_succ, hf]
    exact own_keep h.ans (fun g c hc => key g c 44 (by decide) hc)
  · rw [af_succ, hf]
    have e : i + 1 - (af xs i).length = i - (af xs i).length + 1 := by omega
    simp only [if_true]
    rw [e]; exact ho
/-- one that answered. -/
theorem Nl.good {xs : List St} {cs : Nat → List Value} {w wr w1 w6 : World} {i : Nat} {fv a v6 : Value} {o1 o5 : Obj} (h : Nl xs cs w i fv a wr) (h1 : w1 = wr.alloc o1) (hf : (X xs i).failed = false)
    (ho : w6.ownsRow w.heap.size 44 9 v6 ((af xs i).length + 1) (((af xs i).map cs).flatten ++ cs i)) (hg : (w1.alloc o5).grownBy w6 a.ownBlock) : Nl xs cs w (i + 1) fv v6 (w6.setCell ⟨w.heap.size, 0, none⟩ v6) := by
  subst h1
  have hw : Below w.heap.size w (wr.alloc o1) := h.bel.alloc h.bel.size o1
  have hla := World.ownsRow.alloc (World.ownsRow.alloc h.ans o1) o5
  obtain ⟨l, hl⟩ := h.fls
  have key : ∀ (g : Nat) (c : Array Value) (ty : TypeId), ty ≠ 44 → wr.heap[g]? = some (.cells c ty) → w6.heap[g]? = some (.cells c ty) := fun g c ty ht hc => grown_keep hla hg ht (alloc_keep (o := o5) (alloc_keep (o := o1) hc))
  have hbox := key _ _ 26 (by decide) h.box
  have b6 : Below w.heap.size w w6 := (hw.alloc hw.size o5).grown hg (by have := hw.size; simp only [World.size_alloc] at this ⊢; omega) (fun k e => (World.ownsRow.lt h.ans k e).1)
  have key2 : ∀ (g : Nat) (c : Array Value) (ty : TypeId), ty ≠ 26 → w6.heap[g]? = some (.cells c ty) → (w6.setCell ⟨w.heap.size, 0, none⟩ v6).heap[g]? = some (.cells c ty) := fun g c ty ht hc => by
    rw [Below.heap_setCell w6 ⟨w.heap.size, 0, none⟩ v6 g ?_]
    · exact hc
    · intro e
      have e' : g = w.heap.size := e
      subst e'
      rw [hbox] at hc
      simp only [Option.some.injEq, Obj.cells.injEq] at hc
      exact ht hc.2.1.symm
  refine ⟨b6.setCell (p := ⟨w.heap.size, 0, none⟩) (Nat.le_refl _) _, setCell_at hbox v6, ?_, ⟨l, ?_⟩⟩
  · rw [af_succ, hf]
    simp only [Bool.false_eq_true, if_false, List.length_append, List.length_singleton, List.map_append, List.map_cons, List.map_nil, List.flatten_append, List.flatten_cons, List.flatten_nil, List.append_nil]
    exact own_keep ho (fun g c hc => key2 g c 44 (by decide) hc)
  · rw [af_succ, hf]
    have e : i + 1 - ((af xs i).length + 1) = i - (af xs i).length := by omega
    simp only [Bool.false_eq_true, if_false, List.length_append, List.length_singleton]
    rw [e]
    exact own_keep (own_keep hl (fun g c hc => key g c 9 (by decide) hc)) (fun g c hc => key2 g c 9 (by decide) hc)
theorem app_cells2 (w : World) (o : Obj) (l : List Value) (ty : TypeId) : ∀ j u, l[j]? = some u → ((w.alloc o).alloc (.cells l.toArray ty)).cell? ((⟨w.heap.size + 1, 0, none⟩ : Addr).add j) = some u := by
  have := app_cells (w.alloc o) l ty
  simpa using this

theorem flat9 : ∀ (L : List (List Value)) (p k : Nat) (l : List Value) (u : Value), (∀ x ∈ L, x.length = 9) → L[p]? = some l → l[k]? = some u → L.flatten[p * 9 + k]? = some u
  | [], p, k, l, u, _, h, _ => by simp at h
  | x :: L, p, k, l, u, hL, h, hk => by
    have hx := hL x List.mem_cons_self
    have hk9 : k < l.length := (List.getElem?_eq_some_iff.1 hk).1
    rw [List.flatten_cons]
    cases p with
    | zero =>
      simp at h
      subst h
      rw [Nat.zero_mul, Nat.zero_add, List.getElem?_append_left (by omega)]
      exact hk
    | succ p =>
      rw [List.getElem?_append_right (by omega), hx, show (p + 1) * 9 + k - 9 = p * 9 + k by omega]
      exact flat9 L p k l u (fun y hy => hL y (List.mem_cons_of_mem _ hy)) (by simpa using h) hk
theorem af_mem {xs : List St} {i j : Nat} (h : j ∈ af xs i) : j < i ∧ (X xs j).failed = false := by
  unfold af at h
  simp at h
  exact h
def idx (xs : List St) (q : Nat) : Nat := ((af xs xs.length)[q]?).getD ((af xs xs.length).headD 0)
theorem idx_mem {xs : List St} (h : 0 < (af xs xs.length).length) (q : Nat) : idx xs q ∈ af xs xs.length := by
  unfold idx
  cases hq : (af xs xs.length)[q]? with
  | some j => exact List.mem_of_getElem? hq
  | none =>
    cases hl : af xs xs.length with
    | nil => rw [hl] at h; simp at h
    | cons a l => simp
theorem idx_at {xs : List St} {q : Nat} (h : q < (af xs xs.length).length) : (af xs xs.length)[q]? = some (idx xs q) := by
  unfold idx
  rw [getSome h]; rfl
def eo (v : Value) : Option Addr := match v with
  | .slice a _ _ => a
  | _ => none
def nT (xs : List St) (x y : Nat) : Prop := newer (X xs (idx xs x)) (X xs (idx xs y)) = true ∨ (newer (X xs (idx xs y)) (X xs (idx xs x)) = false ∧ x < y)
/-- what NewestFirst hands back. -/
def NfPost (xs : List St) (cs : Nat → List Value) (w : World) (e : Ending) (w' : World) : Prop :=
  ∃ (aa : Option Addr) (ac : Nat) (fa : Option Addr) (fc : Nat) (d : Nat → Nat), e = .returned (.tuple #[.slice aa (af xs xs.length).length ac, .slice fa (xs.length - (af xs xs.length).length) fc]) ∧ Below w.heap.size w w' ∧ Srt (nT xs) d 0 (af xs xs.length).length ∧ Reach 0 (af xs xs.length).length (fun i => i) d ∧
    (0 < (af xs xs.length).length → ∃ (G : Nat) (c : Array Value), aa = some ⟨G, 0, none⟩ ∧ (af xs xs.length).length ≤ ac ∧ w'.heap[G]? = some (.cells c 44) ∧ ∀ p k u, p < (af xs xs.length).length → (cs (idx xs (d p)))[k]? = some u → c[p * 9 + k]? = some u)
def nEnv (xs : List St) (cs : Nat → List Value) (w wr : World) (G : Nat) (p : Option Addr) (cap : Nat) : Env :=
  ⟨wr, w.heap.size, G, (af xs xs.length).length, cap, p, fun q => X xs (idx xs q), fun q => eo (((cs (idx xs q))[5]?).getD .nilIface), fun q => (X xs (idx xs q)).es.length⟩
theorem good_cs {w : World} {xs : List St} {cs : Nat → List Value} {g cap : Nat} (S : Src w xs cs g cap) {j : Nat} (hj : j ∈ af xs xs.length) : cs j = (csC (X xs j) (.slice (eo (((cs j)[5]?).getD .nilIface)) (X xs j).es.length (X xs j).es.length) .nilIface).toList ∧ EpN w (.slice (eo (((cs j)[5]?).getD .nilIface)) (X xs j).es.length (X xs j).es.length) (X xs j).es := by
  obtain ⟨hj1, hj2⟩ := af_mem hj
  obtain ⟨ep, err, hcs, hep, herr⟩ := S.elem j hj1
  rcases herr with ⟨hf, _⟩ | ⟨_, he⟩
  · rw [hj2] at hf; cases hf
  · subst he
    obtain ⟨g5, c5, hv5, _⟩ := id hep
    subst hv5
    have e : eo (((cs j)[5]?).getD .nilIface) = some ⟨g5, 0, none⟩ := by rw [hcs]; rfl
    rw [e]
    exact ⟨hcs, hep⟩
theorem nEnv_vals {w wr : World} {xs : List St} {cs : Nat → List Value} {g cap G c : Nat} {p : Option Addr} (S : Src w xs cs g cap) (h : 0 < (af xs xs.length).length) (q : Nat) : (nEnv xs cs w wr G p c).vals q = cs (idx xs q) := ((good_cs S (idx_mem h q)).1).symm
/-- the environment of the sort, behind the loop. -/
theorem nEnv_ok {xs : List St} {cs : Nat → List Value} {w wr : World} {g cap : Nat} {fv : Value} {aa : Option Addr} {am ac : Nat} (S : Src w xs cs g cap) (hn : xs.length ≤ 4096) (h : Nl xs cs w xs.length fv (.slice aa am ac) wr) :
    am = (af xs xs.length).length ∧ ∃ G, w.heap.size ≤ G ∧ (nEnv xs cs w wr G aa ac).Ok ∧ (nEnv xs cs w wr G aa ac).SI (fun i => i) wr ∧ (0 < (af xs xs.length).length → aa = some ⟨G, 0, none⟩ ∧ (af xs xs.length).length ≤ ac) := by
  have hle := af_le xs xs.length
  have hA : w.heap.size < wr.heap.size := (Array.getElem?_eq_some_iff.1 h.box).1
  have hbox : wr.cell? ⟨w.heap.size, 0, none⟩ = some (.slice aa am ac) := (blk_cell (i := 0) h.box rfl).1
  have hep : 0 < (af xs xs.length).length → ∀ G p c q, EpN wr (.slice ((nEnv xs cs w wr G p c).ao q) ((nEnv xs cs w wr G p c).Y q).es.length ((nEnv xs cs w wr G p c).c q)) ((nEnv xs cs w wr G p c).Y q).es := fun h0 G p c q => by
    obtain ⟨g, c', hv, hm, hc, hf⟩ := (good_cs S (idx_mem h0 q)).2
    exact ⟨g, c', hv, hm, (h.bel.block g (Array.getElem?_eq_some_iff.1 hc).1).trans hc, hf⟩
  have h9 : ∀ y ∈ (af xs xs.length).map cs, y.length = 9 := fun y hy => by
    obtain ⟨j, hj, rfl⟩ := List.mem_map.1 hy
    rw [(good_cs S hj).1]; rfl
  rcases h.ans.2 with ⟨hv, h0⟩ | ⟨G, cp, cur, hv, hB, hG, hc, _, hsz, htk⟩
  · simp only [Value.slice.injEq] at hv
    obtain ⟨rfl, rfl, rfl⟩ := hv
    refine ⟨h0.symm, wr.heap.size, Nat.le_of_lt hA, ⟨by show (af xs xs.length).length ≤ 4096; omega, fun hp => absurd hp (by show ¬ 0 < (af xs xs.length).length; omega), hA, by show w.heap.size ≠ wr.heap.size; omega, by show wr.cell? _ = some (.slice none (af xs xs.length).length 0); rw [h0]; exact hbox, fun hp => absurd hp (by show ¬ 0 < (af xs xs.length).length; omega), fun hp => absurd hp (by show ¬ 0 < (af xs xs.length).length; omega)⟩, ⟨Exc.refl _ _, fun hp => absurd hp (by show ¬ 0 < (af xs xs.length).length; omega)⟩, fun hp => by omega⟩
  · simp only [Value.slice.injEq] at hv
    obtain ⟨rfl, rfl, rfl⟩ := hv
    have hGl := (Array.getElem?_eq_some_iff.1 hG).1
    have hAG : w.heap.size ≠ G := by
      intro e
      subst e
      rw [h.box] at hG
      simp only [Option.some.injEq, Obj.cells.injEq] at hG
      exact absurd hG.2.1 (by decide)
    refine ⟨rfl, G, hB, ⟨by show (af xs xs.length).length ≤ 4096; omega, fun _ => ⟨rfl, hGl⟩, hA, hAG, hbox, fun h0 q => hep h0 G _ _ q, fun _ => ⟨cur, hG⟩⟩, ⟨Exc.refl _ _, fun hp => ⟨cur, hG, by show (af xs xs.length).length * 9 ≤ cur.size; rw [hsz]; exact Nat.mul_le_mul_right 9 hc, fun p k u hpn hu => ?_⟩⟩, fun _ => ⟨rfl, hc⟩⟩
    have hpn' : p < (af xs xs.length).length := hpn
    rw [nEnv_vals S (by omega)] at hu
    have hk : k < 9 := by
      have := (List.getElem?_eq_some_iff.1 hu).1
      rwa [h9 (cs (idx xs p)) (List.mem_map.2 ⟨_, idx_mem (by omega) p, rfl⟩)] at this
    have hfl := flat9 _ p k (cs (idx xs p)) u h9 (by rw [List.getElem?_map, idx_at hpn']; rfl) hu
    rw [← htk, List.getElem?_take_of_lt (by omega), Array.getElem?_toList] at hfl
    exact hfl
set_option maxHeartbeats 8000000 in
set_option maxRecDepth 100000 in
theorem newestFirst_any (F : Interp) (xs : List St) (cs : Nat → List Value) (po : Option Addr) (g cap : Nat) (w : World) (hF : F.answers w.tape) (hpo : 0 < xs.length → po = some ⟨g, 0, none⟩) (S : Src w xs cs g cap) (hn : xs.length ≤ 4096) :
    Calls Tryf.prog 6 #[.slice po xs.length cap] w (NfPost xs cs w) := by
  obtain ⟨i44, hi, hz, hz1, hz2⟩ := csInfo
  obtain ⟨i9, hi9, hz9, hz91, hz92⟩ := strInfo
  have hcap := S.cap
  have HS : Hid (Src w xs cs g cap) := S
  have HPO : Hid _ := hpo
  clear S hpo
  go_enter Tryf.func6, Tryf.ntmps6
  go_wp2_with fail
  go_loopw [3, 8] (fun vf vi wr => Nf xs cs w vf vi wr) (fun _ vi _ => xs.length - (intOf vi).toNat)
  case atStart => exact ⟨0, .slice none 0 0, rfl, Nat.zero_le _, ⟨(Below.refl _ w).alloc (Nat.le_refl _) _, heap_new _ _, World.ownsRow_nil _ _ _ _, ⟨[], World.ownsRow_nil _ _ _ _⟩⟩⟩
  case round =>
    obtain ⟨i, a, rfl, hile, hN⟩ := hrel
    obtain ⟨aa, am, ac, rfl⟩ := own_slice hN.ans
    obtain ⟨fl, hfl⟩ := hN.fls
    obtain ⟨fa, fm, fc, rfl⟩ := own_slice hfl
    have bx := blk_cell (i := 0) hN.box rfl
    have bx1 : wr.cell? ⟨w.heap.size, 0, none⟩ = some (.slice aa am ac) := bx.1
    have hle := af_le xs i
    have zw := hN.bel.size
    have zlt : w.heap.size < wr.heap.size := (Array.getElem?_eq_some_iff.1 hN.box).1
    by_cases hlt : i < xs.length
    · have e0 := HPO.out (by omega)
      subst e0
      have hg := HS.out.lt (by omega)
      have hcell : ∀ k u, (cs i)[k]? = some u → wr.cell? ⟨g, i * 9 + k, none⟩ = some u := fun k u hu => (hN.bel.cell (p := ⟨g, i * 9 + k, none⟩) hg).trans (HS.out.cell i hlt k u hu)
      obtain ⟨ep, err, hcs, hep, herr⟩ := HS.out.elem i hlt
      obtain ⟨g5, c5, hv5, _⟩ := id hep
      obtain ⟨x, hx⟩ : ∃ x, X xs i = x := ⟨_, rfl⟩
      subst hv5
      rw [hcs] at hcell
      rw [hx] at hcell herr hep
      have Hx : Hid _ := hx
      have c0 : wr.cell? ⟨g, i * 9, none⟩ = some (.string x.id) := hcell 0 _ rfl
      have c1 : wr.cell? ⟨g, i * 9 + 1, none⟩ = some (.string x.addr) := hcell 1 _ rfl
      have c2 : wr.cell? ⟨g, i * 9 + 2, none⟩ = some (.int .u64 x.first) := hcell 2 _ rfl
      have c3 : wr.cell? ⟨g, i * 9 + 3, none⟩ = some (.int .u64 x.last) := hcell 3 _ rfl
      have c4 : wr.cell? ⟨g, i * 9 + 4, none⟩ = some (.int .u64 x.prom) := hcell 4 _ rfl
      have c6 : wr.cell? ⟨g, i * 9 + 6, none⟩ = some (.int .u64 x.bytes) := hcell 6 _ rfl
      have c7 : wr.cell? ⟨g, i * 9 + 7, none⟩ = some (.bool x.lost) := hcell 7 _ rfl
      have c8 : wr.cell? ⟨g, i * 9 + 8, none⟩ = some err := hcell 8 _ rfl
      have c5' : wr.cell? ⟨g, i * 9 + 5, none⟩ = some (.slice (some ⟨g5, 0, none⟩) x.es.length x.es.length) := hcell 5 _ rfl
      have hT : ∀ o, F.answers (wr.alloc o).tape := fun o => by
        have := (hN.bel.alloc hN.bel.size o).tape
        rw [this]; exact hF
      have HT : Hid _ := hT
      have HCS : Hid _ := hcs
      clear hcell hT hcs hx
      rcases herr with ⟨hf, b, hb, hE⟩ | ⟨hf, hb⟩
      · subst hb
        have hEr : ∀ o, ErrAt (wr.alloc o) b := fun o => alloc_keep ((hN.bel.block b (Array.getElem?_eq_some_iff.1 hE).1).trans hE)
        have HEr : Hid _ := hEr
        clear hEr hE
        go_wp2_with fail
        refine (copyFailure_any F x.id x.addr b _ (HT.out _) (HEr.out _)).mono ?_
        rintro e w5 ⟨s, rfl, hb5⟩
        have hl5 := own_below (World.ownsRow.alloc hfl _) hb5
        have z5 : wr.heap.size + 1 ≤ w5.heap.size := by have := hb5.size; simp only [World.size_alloc] at this; exact this
        go_wp2_with (at_builtin; refine wpList_append_own _ rfl _ _ 27 rfl w.heap.size 9 i9 (.string ⟨#[]⟩) 1 16 Tryf.underlying27 hi9 hz9 hz91 hz92 rfl (by decide) _ _ _ rfl (World.ownsRow.alloc hl5 _) ⟨w5.heap.size, 0, none⟩ 1 1 [.string s] rfl rfl (app_cells _ _ _) (by intro u hu; simp at hu; subst hu; rfl) (by unfold maxLen; omega) (by omega) (by simp; omega) ?_)
        intro v6 w6 ho6 hg6 _
        have hN6 := Nl.fail hN rfl hb5 (by rw [Hx.out]; exact hf) hl5 ho6 hg6
        clear ho6 hg6 hl5 hb5
        go_wp2
        go_roundw
        case rel => exact ⟨i + 1, _, by go_num, hlt, hN6⟩
        case measure => simp [intOf]; omega
      · subst hb
        go_wp2_with (at_builtin; refine wpList_append_own _ rfl _ _ 26 rfl w.heap.size 44 i44 _ 9 112 Tryf.underlying26 hi hz hz1 hz2 rfl (by decide) _ _ _ rfl (World.ownsRow.alloc (World.ownsRow.alloc hN.ans _) _) ⟨wr.heap.size + 1, 0, none⟩ 1 1 [.string x.id, .string x.addr, .int .u64 x.first, .int .u64 x.last, .int .u64 x.prom, .slice (some ⟨g5, 0, none⟩) x.es.length x.es.length, .int .u64 x.bytes, .bool x.lost, .nilIface] rfl rfl (app_cells2 _ _ _ _) (by intro u hu; simp at hu; rcases hu with rfl | rfl | rfl | rfl | rfl | rfl | rfl | rfl | rfl <;> rfl) (by unfold maxLen; omega) (by omega) (by simp; omega) ?_)
        intro v6 w6 ho6 hg6 _
        have hbox6 := grown_keep (World.ownsRow.alloc (World.ownsRow.alloc hN.ans _) _) hg6 (by decide) (alloc_keep (alloc_keep hN.box))
        have bz := blk_cell (i := 0) hbox6 rfl
        have bz1 : w6.cell? ⟨w.heap.size, 0, none⟩ = some (.slice aa am ac) := bz.1
        have bz2 := bz.2
        have hcsx : cs i = [.string x.id, .string x.addr, .int .u64 x.first, .int .u64 x.last, .int .u64 x.prom, .slice (some ⟨g5, 0, none⟩) x.es.length x.es.length, .int .u64 x.bytes, .bool x.lost, .nilIface] := by rw [HCS.out, Hx.out]; rfl
        rw [← hcsx] at ho6
        obtain ⟨a6, m6, c6', rfl⟩ := own_slice ho6
        have hN6 := Nl.good hN rfl (by rw [Hx.out]; exact hf) ho6 hg6
        clear ho6 hg6 hbox6 bz hcsx
        go_wp2
        go_roundw
        case rel => exact ⟨i + 1, _, by go_num, hlt, hN6⟩
        case measure => simp [intOf]; omega
    · have ei : i = xs.length := by omega
      subst ei
      obtain ⟨eam, G, hGw, okE, hSI, hpG⟩ := nEnv_ok HS.out hn hN
      subst eam
      have HSO : Hid (Calls Tryf.prog 12 #[.iface 26 (.slice aa (af xs xs.length).length ac), .func (.func 13) #[] #[.pointer (some ⟨w.heap.size, 0, none⟩)]] wr (nEnv xs cs w wr G aa ac).Sorted) := sliceStable_any _ okE hSI
      have hfm : fm = xs.length - (af xs xs.length).length := by
        rcases hfl.2 with ⟨hv, h0⟩ | ⟨g2, cp2, cur2, hv, _⟩
        · simp only [Value.slice.injEq] at hv; omega
        · simp only [Value.slice.injEq] at hv; omega
      clear bx
      go_wp2_with fail
      refine Calls.mono HSO.out ?_
      rintro e w' ⟨rfl, d', hS, hR, hI⟩
      have hbx : w'.heap[w.heap.size]? = some (.cells #[.slice aa (af xs xs.length).length ac] 26) := (hI.1.2.2.2.2 w.heap.size zlt okE.hAG).trans hN.box
      have by1 : w'.cell? ⟨w.heap.size, 0, none⟩ = some (.slice aa (af xs xs.length).length ac) := (blk_cell hbx rfl).1
      have by2 : w'.frozen? ⟨w.heap.size, 0, none⟩ = false := (blk_cell (i := 0) hbx rfl).2
      have hP : NfPost xs cs w (.returned (.tuple #[.slice aa (af xs xs.length).length ac, .slice fa fm fc])) (w'.setCell ⟨w.heap.size, 0, none⟩ (.slice aa (af xs xs.length).length ac)) := by
        refine ⟨aa, ac, fa, fc, d', by rw [hfm], ?_, hS, hR, fun h0 => ?_⟩
        · refine Below.setCell (B := w.heap.size) (p := ⟨w.heap.size, 0, none⟩) ?_ (Nat.le_refl _) _
          exact ⟨hI.1.1.trans hN.bel.os, hI.1.2.1.trans hN.bel.tape, hI.1.2.2.1.trans hN.bel.output, Nat.le_trans zw hI.1.2.2.2.1, fun k hk => (hI.1.2.2.2.2 k (Nat.lt_of_lt_of_le hk zw) (by show k ≠ G; omega)).trans (hN.bel.block k hk)⟩
        · obtain ⟨c, h1, h2, h3⟩ := hI.2 h0
          refine ⟨G, c, (hpG h0).1, (hpG h0).2, ?_, fun p k u hp hu => h3 p k u hp ?_⟩
          · rw [Below.heap_setCell w' ⟨w.heap.size, 0, none⟩ _ G (fun e => okE.hAG e.symm)]; exact h1
          · rw [nEnv_vals HS.out h0]; exact hu
      have HP : Hid (NfPost xs cs w (.returned (.tuple #[.slice aa (af xs xs.length).length ac, .slice fa fm fc])) (w'.setCell ⟨w.heap.size, 0, none⟩ (.slice aa (af xs xs.length).length ac))) := hP
      clear hP hS hR hI hbx hfm
      have byS : (w'.setCell ⟨w.heap.size, 0, none⟩ (.slice aa (af xs xs.length).length ac)).cell? ⟨w.heap.size, 0, none⟩ = some (.slice aa (af xs xs.length).length ac) := World.cell?_setCell_same w' _ _ by1
      go_wp2
      exact bodyPost_ret (v := .tuple #[.slice aa (af xs xs.length).length ac, .slice fa fm fc]) (by simp [results, Tryf.results6, go_sem, byS]) rfl HP.out
end Go.Proofs.Qxb6615733aFmt
