/-
  Seat b6615733aF: sort.SliceStable over the row of the states that answered.
-/
import Derived.Test.Qxb6615733aFmtWalkS5
import Derived.Test.Qxb6615733aFmtWalkL
import Derived.Lib.ReflectliteSlice
import Derived.Lib.ReflectliteSwap
import Derived.Laws.Externs
import Derived.Shelf.Abstract
namespace Go.Proofs.Qxb6615733aFmt
open Go.RowKit Go.Lib

/-- all but the block G stands. -/
def Exc (G : Nat) (w0 w : World) : Prop := w.os = w0.os ∧ w.tape = w0.tape ∧ w.output = w0.output ∧ w0.heap.size ≤ w.heap.size ∧ ∀ k, k < w0.heap.size → k ≠ G → w.heap[k]? = w0.heap[k]?
theorem Exc.refl (G : Nat) (w : World) : Exc G w w := ⟨rfl, rfl, rfl, Nat.le_refl _, fun _ _ _ => rfl⟩
theorem Exc.below {G : Nat} {w0 w w' : World} (h : Exc G w0 w) (hb : Below w.heap.size w w') : Exc G w0 w' :=
  ⟨hb.os.trans h.1, hb.tape.trans h.2.1, hb.output.trans h.2.2.1, Nat.le_trans h.2.2.2.1 hb.size, fun k h1 h2 => (hb.block k (Nat.lt_of_lt_of_le h1 h.2.2.2.1)).trans (h.2.2.2.2 k h1 h2)⟩
theorem Exc.set {G : Nat} {w0 w : World} (h : Exc G w0 w) (o : Nat) (v : Value) : Exc G w0 (w.setCell ⟨G, o, none⟩ v) :=
  ⟨h.1, h.2.1, h.2.2.1, by simpa using h.2.2.2.1, fun k h1 h2 => (Below.heap_setCell w ⟨G, o, none⟩ v k h2).trans (h.2.2.2.2 k h1 h2)⟩
theorem Exc.sets {G : Nat} {w0 : World} : ∀ (vs : List Value) (o : Nat) (w : World), Exc G w0 w → Exc G w0 (w.setCells G o vs)
  | [], _, _, h => h
  | v :: r, o, w, h => by rw [World.setCells]; exact Exc.sets r (o + 1) _ (h.set o v)
theorem sets_at (G : Nat) (ty : TypeId) : ∀ (vs : List Value) (o : Nat) (w : World) (c : Array Value), w.heap[G]? = some (.cells c ty) → o + vs.length ≤ c.size →
    ∃ c', (w.setCells G o vs).heap[G]? = some (.cells c' ty) ∧ c'.size = c.size ∧ (∀ k u, vs[k]? = some u → c'[o + k]? = some u) ∧ ∀ k, k < o ∨ o + vs.length ≤ k → c'[k]? = c[k]?
  | [], o, w, c, h, _ => ⟨c, h, rfl, fun k u hk => by simp at hk, fun _ _ => rfl⟩
  | v :: r, o, w, c, h, hl => by
    rw [World.setCells]
    simp only [List.length_cons] at hl
    obtain ⟨c', h1, h2, h3, h4⟩ := sets_at G ty r (o + 1) (w.setCell ⟨G, o, none⟩ v) _ (setCell_at h v) (by simp; omega)
    refine ⟨c', h1, by rw [h2]; simp, fun k u hk => ?_, fun k hk => ?_⟩
    · cases k with
      | zero =>
        simp at hk
        subst hk
        rw [Nat.add_zero, h4 o (Or.inl (by omega)), Array.getElem?_setIfInBounds, if_pos rfl, if_pos (by omega)]
      | succ k =>
        have := h3 k u (by simpa using hk)
        rw [show o + (k + 1) = o + 1 + k by omega]; exact this
    · simp only [List.length_cons] at hk
      rw [h4 k (by omega), Array.getElem?_setIfInBounds, if_neg (by omega)]
theorem sets_up {B G : Nat} (hG : G < B) : ∀ (vs : List Value) (o : Nat) (w : World), Up B w (w.setCells G o vs)
  | [], _, w => Up.refl _ w
  | v :: r, o, w => by
    rw [World.setCells]
    refine Up.trans (b := w.setCell ⟨G, o, none⟩ v) ⟨by simp, fun k h1 _ => Below.heap_setCell w ⟨G, o, none⟩ v k (by show k ≠ G; omega)⟩ (sets_up hG r (o + 1) _)
/-- what is sorted: the states, their epochs' slices. -/
structure Env where
  w0 : World
  A : Nat
  G : Nat
  n : Nat
  cap : Nat
  p : Option Addr
  Y : Nat → St
  ao : Nat → Option Addr
  c : Nat → Nat
def Env.vals (E : Env) (q : Nat) : List Value := (csC (E.Y q) (.slice (E.ao q) (E.Y q).es.length (E.c q)) .nilIface).toList
structure Env.Ok (E : Env) : Prop where
  hn : E.n ≤ 4096
  hp : 0 < E.n → E.p = some ⟨E.G, 0, none⟩ ∧ E.G < E.w0.heap.size
  hA : E.A < E.w0.heap.size
  hAG : E.A ≠ E.G
  box : E.w0.cell? ⟨E.A, 0, none⟩ = some (.slice E.p E.n E.cap)
  ep : 0 < E.n → ∀ q, EpN E.w0 (.slice (E.ao q) (E.Y q).es.length (E.c q)) (E.Y q).es
  row : 0 < E.n → ∃ c, E.w0.heap[E.G]? = some (.cells c 44)
/-- the world while it is sorted. -/
def Env.SI (E : Env) (d : Nat → Nat) (w : World) : Prop :=
  Exc E.G E.w0 w ∧ (0 < E.n → ∃ c : Array Value, w.heap[E.G]? = some (.cells c 44) ∧ E.n * 9 ≤ c.size ∧ ∀ p k u, p < E.n → (E.vals (d p))[k]? = some u → c[p * 9 + k]? = some u)
theorem Env.SI.below {E : Env} {d : Nat → Nat} {w w' : World} (h : E.SI d w) (hb : Below w.heap.size w w') : E.SI d w' := by
  refine ⟨h.1.below hb, fun h0 => ?_⟩
  obtain ⟨c, h1, h2, h3⟩ := h.2 h0
  exact ⟨c, (hb.block _ (Array.getElem?_eq_some_iff.1 h1).1).trans h1, h2, h3⟩
theorem Env.epw {E : Env} (ok : E.Ok) {d : Nat → Nat} {w : World} (h : E.SI d w) (h0 : 0 < E.n) (q : Nat) : EpN w (.slice (E.ao q) (E.Y q).es.length (E.c q)) (E.Y q).es := by
  obtain ⟨g, c, hv, hm, hc, hf⟩ := ok.ep h0 q
  refine ⟨g, c, hv, hm, ?_, hf⟩
  obtain ⟨cG, hG⟩ := ok.row h0
  rw [h.1.2.2.2.2 g (Array.getElem?_eq_some_iff.1 hc).1 ?_]
  · exact hc
  · intro e
    subst e
    rw [hc] at hG
    simp only [Option.some.injEq, Obj.cells.injEq] at hG
    exact absurd hG.2.1 (by decide)
theorem Env.cp {E : Env} {d : Nat → Nat} {w : World} (h : E.SI d w) {p : Nat} (hp : p < E.n) : CpAt w E.G (p * 9) (E.Y (d p)) (E.ao (d p)) (E.c (d p)) := by
  obtain ⟨c, h1, h2, h3⟩ := h.2 (by omega)
  have key : ∀ k u, (E.vals (d p))[k]? = some u → w.cell? ⟨E.G, p * 9 + k, none⟩ = some u := fun k u hu => (blk_cell h1 (h3 p k u hp hu)).1
  exact ⟨key 2 _ rfl, key 3 _ rfl, key 4 _ rfl, key 5 _ rfl, key 6 _ rfl, key 7 _ rfl⟩
theorem Env.boxw {E : Env} (ok : E.Ok) {d : Nat → Nat} {w : World} (h : E.SI d w) : w.cell? ⟨E.A, 0, none⟩ = some (.slice E.p E.n E.cap) := by
  rw [World.cell?_of_block (w := E.w0) (w' := w) (a := ⟨E.A, 0, none⟩) (h.1.2.2.2.2 E.A ok.hA ok.hAG)]
  exact ok.box
theorem vals_one (E : Env) (q : Nat) : ∀ v ∈ E.vals q, v.oneCell' = true := by
  intro v hv
  unfold Env.vals csC at hv
  simp at hv
  rcases hv with rfl | rfl | rfl | rfl | rfl | rfl | rfl | rfl | rfl <;> rfl
theorem vals_len (E : Env) (q : Nat) : (E.vals q).length = 9 := rfl
theorem Env.SI.swap {E : Env} {d : Nat → Nat} {w : World} (h : E.SI d w) {i j : Nat} (hi : i < E.n) (hj : j < E.n) (hij : i ≠ j) :
    E.SI (swp d i j) ((w.setCells E.G (0 + i * 9) (E.vals (d j))).setCells E.G (0 + j * 9) (E.vals (d i))) := by
  refine ⟨Exc.sets _ _ _ (Exc.sets _ _ _ h.1), fun h0 => ?_⟩
  obtain ⟨c, h1, h2, h3⟩ := h.2 h0
  obtain ⟨c1, a1, a2, a3, a4⟩ := sets_at E.G 44 (E.vals (d j)) (0 + i * 9) w c h1 (by rw [vals_len]; omega)
  obtain ⟨c2, b1, b2, b3, b4⟩ := sets_at E.G 44 (E.vals (d i)) (0 + j * 9) _ c1 a1 (by rw [vals_len]; omega)
  simp only [vals_len, Nat.zero_add] at a3 a4 b3 b4
  refine ⟨c2, b1, by omega, fun p k u hp hu => ?_⟩
  have hk : k < 9 := by
    have := (List.getElem?_eq_some_iff.1 hu).1
    rwa [vals_len] at this
  unfold swp at hu
  by_cases e1 : p = j
  · subst e1
    rw [if_neg (fun h => hij h.symm), if_pos rfl] at hu
    exact b3 k u hu
  · rw [b4 _ (by omega)]
    by_cases e2 : p = i
    · subst e2
      rw [if_pos rfl] at hu
      exact a3 k u hu
    · rw [if_neg e2, if_neg e1] at hu
      rw [a4 _ (by omega)]
      exact h3 p k u hp hu

def Env.fns (E : Env) (sf : Nat) (sb : Array Value) : Fns := ⟨13, #[.pointer (some ⟨E.A, 0, none⟩)], sf, sb, E.n, E.w0.heap.size, fun i j => newer (E.Y i) (E.Y j), E.SI⟩
theorem newer_iff (x y : St) : newer x y = true ↔ (tailOf y.es < tailOf x.es ∨ (tailOf x.es = tailOf y.es ∧ y.last < x.last)) := by
  unfold newer
  by_cases h : tailOf x.es = tailOf y.es
  · rw [if_pos h]; simp; omega
  · rw [if_neg h]; simp; omega
theorem newer_not (x y : St) : newer x y = false ↔ ¬ (tailOf y.es < tailOf x.es ∨ (tailOf x.es = tailOf y.es ∧ y.last < x.last)) := by
  rw [← newer_iff]; simp
theorem Env.order (E : Env) (sf : Nat) (sb : Array Value) : (E.fns sf sb).Order := by
  refine ⟨fun x y z h1 h2 => ?_⟩
  unfold Fns.T Env.fns at h1 h2 ⊢
  simp only [newer_iff, newer_not] at h1 h2 ⊢
  omega
theorem Env.less {E : Env} (ok : E.Ok) (d : Nat → Nat) (w : World) (h : E.SI d w) (i j : Nat) (hi : i < E.n) (hj : j < E.n) :
    Calls Tryf.prog 13 (#[.int .i64 i, .int .i64 j] ++ #[.pointer (some ⟨E.A, 0, none⟩)]) w fun e w' => e = .returned (.bool (newer (E.Y (d i)) (E.Y (d j)))) ∧ E.SI d w' ∧ Up E.w0.heap.size w w' := by
  have h0 : 0 < E.n := by omega
  have hb := Env.boxw ok h
  rw [(ok.hp h0).1] at hb
  have hs := h.1.2.2.2.1
  have := less_any E.A E.G E.n E.cap i j (E.Y (d i)) (E.Y (d j)) (E.ao (d i)) (E.ao (d j)) (E.c (d i)) (E.c (d j)) w hi hj (Nat.lt_of_lt_of_le ok.hA hs) (Nat.lt_of_lt_of_le (ok.hp h0).2 hs) hb (Env.cp h hi) (Env.cp h hj) (Env.epw ok h h0 _).ep (Env.epw ok h h0 _).ep
  refine this.mono ?_
  rintro e w' ⟨rfl, hbel⟩
  exact ⟨rfl, h.below hbel, hbel.size, fun k _ hk => hbel.block k hk⟩
theorem Env.okOf {E : Env} (ok : E.Ok) (sf : Nat) (sb : Array Value) (hs : ∀ d w, E.SI d w → ∀ i j : Nat, i < E.n → j < E.n → i ≠ j → ∃ w', (callFunc sf (#[.int .i64 i, .int .i64 j] ++ sb)).run Tryf.prog w = .ok (.value (.tuple #[])) w' ∧ E.SI (swp d i j) w' ∧ Up E.w0.heap.size w w') : (E.fns sf sb).Ok :=
  ⟨enters_of Tryf.func13 (by kernel_rfl) rfl, fun _ _ h => h.1.2.2.2.1, fun _ _ _ h => h.below ((Below.refl _ _).alloc (Nat.le_refl _) _), fun d w h i j hi hj => Env.less ok d w h i j hi hj, hs⟩
theorem swap9 (args : Array Value) (w : World) : (callFunc 34 args).run Tryf.prog w = ((Extern.ReflectliteSwapper.swap false args).run Tryf.prog w).andThen fun v w' => .ok (.value v) w' :=
  run_callFunc_extern Tryf.func34 (by kernel_rfl) (by kernel_rfl) (by kernel_rfl) (by kernel_rfl) args w
theorem agg44 (w : World) : (isAgg 44).run Tryf.prog w = .ok true w := by kernel_rfl
theorem kind44 (w : World) : (Extern.Rtype.kind 44).run Tryf.prog w = .ok 25 w := by kernel_rfl
/-- Swapper's literal for two states or more. -/
theorem Env.swap9 {E : Env} (ok : E.Ok) (d : Nat → Nat) (w : World) (h : E.SI d w) (i j : Nat) (hi : i < E.n) (hj : j < E.n) (hij : i ≠ j) :
    ∃ w', (callFunc 34 (#[.int .i64 i, .int .i64 j] ++ #[.slice E.p E.n E.cap, typeHandle Tryf.prog 44])).run Tryf.prog w = .ok (.value (.tuple #[])) w' ∧ E.SI (swp d i j) w' ∧ Up E.w0.heap.size w w' := by
  have h0 : 0 < E.n := by omega
  obtain ⟨c, h1, h2, h3⟩ := h.2 h0
  obtain ⟨ie, hie, _, hs, _⟩ := csInfo
  have key : ∀ p, p < E.n → ∀ k v, (E.vals (d p))[k]? = some v → w.cell? ⟨E.G, 0 + p * ie.size + k, none⟩ = some v := fun p hp k v hv => by
    rw [hs, Nat.zero_add]; exact (blk_cell h1 (h3 p k v hp hv)).1
  have fz : ∀ p, p < E.n → ∀ k, k < ie.size → w.frozen? ⟨E.G, 0 + p * ie.size + k, none⟩ = false := fun p hp k hk => by
    rw [hs] at hk ⊢
    rw [Nat.zero_add]
    exact (blk_cell h1 (Array.getElem?_eq_getElem (by omega))).2
  have hr := run_swap_cells (P := Tryf.prog) false 44 ie hie agg44 E.G 0 E.n E.cap i j hi hj (E.vals (d i)) (E.vals (d j)) (by rw [hs, vals_len]) (by rw [hs, vals_len]) (vals_one E _) (vals_one E _) w (key i hi) (key j hj) (fz i hi) (fz j hj)
  rw [hs] at hr
  refine ⟨_, ?_, h.swap hi hj hij, Up.trans (sets_up (ok.hp h0).2 _ _ _) (sets_up (ok.hp h0).2 _ _ _)⟩
  rw [(ok.hp h0).1]
  show (callFunc 34 #[.int .i64 i, .int .i64 j, .slice (some ⟨E.G, 0, none⟩) E.n E.cap, typeHandle Tryf.prog 44]).run Tryf.prog w = _
  rw [Qxb6615733aFmt.swap9, hr]
  rfl

def Env.T (E : Env) (x y : Nat) : Prop := newer (E.Y x) (E.Y y) = true ∨ (newer (E.Y y) (E.Y x) = false ∧ x < y)
def Env.Sorted (E : Env) (e : Ending) (w' : World) : Prop := e = .returned (.tuple #[]) ∧ ∃ d', Srt E.T d' 0 E.n ∧ Reach 0 E.n (fun i => i) d' ∧ E.SI d' w'
theorem slInfo : ∃ i, Tryf.prog.info? 26 = some i ∧ i.desc = .slice 44 := by
  have h : (Tryf.prog.info? 26).map (fun i => i.desc) = some (.slice 44) := by kernel_rfl
  obtain ⟨i, hi, he⟩ := Option.map_eq_some_iff.1 h
  exact ⟨i, hi, he⟩
theorem ptrInfo : ∃ i, Tryf.prog.info? 44 = some i ∧ i.hasPointers = true ∧ i.bytes = 112 := by
  have h : (Tryf.prog.info? 44).map (fun i => (i.hasPointers, i.bytes)) = some (true, 112) := by kernel_rfl
  obtain ⟨i, hi, he⟩ := Option.map_eq_some_iff.1 h
  simp only [Prod.mk.injEq] at he
  exact ⟨i, hi, he.1, he.2⟩
theorem pk26 : Tryf.prog.packed 26 = false := by kernel_rfl
set_option maxHeartbeats 2000000 in
set_option maxRecDepth 100000 in
/-- the entry, whichever literal Swapper hands back. -/
theorem sliceStable_of (E : Env) (ok : E.Ok) (h0 : E.SI (fun i => i) E.w0) (sf : Nat) (sb : Array Value)
    (hsw : ∀ w, (Extern.ReflectliteSwapper.swapper "internal/reflectlite" (Extern.ReflectliteValue.valueError "Swapper") #[.iface 26 (.slice E.p E.n E.cap)]).run Tryf.prog w = .ok (.func (.func sf) #[] sb) w) (okF : (E.fns sf sb).Ok) :
    Calls Tryf.prog 12 #[.iface 26 (.slice E.p E.n E.cap), .func (.func 13) #[] #[.pointer (some ⟨E.A, 0, none⟩)]] E.w0 E.Sorted := by
  obtain ⟨i, hi, hd⟩ := slInfo
  have hv := run_valueOf_slice (P := Tryf.prog) 26 44 i hi hd E.p E.n E.cap E.w0
  have hl := fun a w ha => run_valueLen_slice (P := Tryf.prog) 26 44 i hi hd pk26 a E.p E.n E.cap w ha
  have h21 : (callFunc 21 #[.iface 26 (.slice E.p E.n E.cap)]).run Tryf.prog E.w0 = .ok (.value (.agg #[typeHandle Tryf.prog 26, .pointer (some ⟨E.w0.heap.size, 0, none⟩), .int .u64 151])) (E.w0.alloc (.cells #[.slice E.p E.n E.cap] 26)) := by
    rw [run_callFunc_extern Tryf.func21 (by kernel_rfl) (by kernel_rfl) (by kernel_rfl) (e := fun args => Extern.ReflectliteValue.unpack (args.getD 0 (.tuple #[]))) (by kernel_rfl), show Sem.run Tryf.prog ((fun args : Array Value => Extern.ReflectliteValue.unpack (args.getD 0 (.tuple #[]))) #[.iface 26 (.slice E.p E.n E.cap)]) E.w0 = _ from hv]
    rfl
  have h22 : ∀ w, (callFunc 22 #[.iface 26 (.slice E.p E.n E.cap)]).run Tryf.prog w = .ok (.value (.func (.func sf) #[] sb)) w := fun w => by
    rw [run_callFunc_extern Tryf.func22 (by kernel_rfl) (by kernel_rfl) (by kernel_rfl) (e := Extern.ReflectliteSwapper.swapper "internal/reflectlite" (Extern.ReflectliteValue.valueError "Swapper")) (by kernel_rfl), hsw]
    rfl
  have h24 : ∀ a w, w.cell? a = some (.slice E.p E.n E.cap) → (callFunc 24 #[.agg #[typeHandle Tryf.prog 26, .pointer (some a), .int .u64 151]]).run Tryf.prog w = .ok (.value (.int .i64 E.n)) w := fun a w ha => by
    rw [run_callFunc_extern Tryf.func24 (by kernel_rfl) (by kernel_rfl) (by kernel_rfl) (e := Extern.ReflectliteValue.method (Extern.ReflectliteValue.valueError "reflectlite.Value.Len" 0) Extern.ReflectliteValue.len) (by kernel_rfl), hl a w ha]
    rfl
  simp only [typeHandle] at h21 h24
  have hst := fun W hW => stable_any (E.fns sf sb) okF (E.order sf sb) ok.hn W hW
  have HST : Hid _ := hst
  clear hv hl hsw hst
  have hbel : ∀ o1 o2 : Obj, E.SI (fun i => i) ((E.w0.alloc o1).alloc o2) := fun o1 o2 => h0.below (((Below.refl _ E.w0).alloc (Nat.le_refl _) o1).alloc (by simp) o2)
  have HB : Hid _ := hbel
  clear hbel
  generalize Tryf.prog.globals.size = gs at h21 h24
  go_enter Tryf.func12, Tryf.ntmps12
  go_wp2_with fail
  refine (HST.out _ (HB.out _ _)).mono ?_
  rintro e w' ⟨rfl, d', ⟨hS, hR⟩, hI, _⟩
  go_wp2
  go_end0
  exact ⟨rfl, d', hS, hR, hI⟩
theorem lit1 : Tryf.prog.funcs.findIdx? (·.name == "internal/reflectlite" ++ ".Swapper$" ++ toString 1) = some 26 := by kernel_rfl
theorem lit2 : Tryf.prog.funcs.findIdx? (·.name == "internal/reflectlite" ++ ".Swapper$" ++ toString 2) = some 27 := by kernel_rfl
theorem lit9 : Tryf.prog.funcs.findIdx? (·.name == "internal/reflectlite" ++ ".Swapper$" ++ toString 9) = some 34 := by kernel_rfl
/-- sort.SliceStable: the states that answered are put in order; ties keep theirs. -/
theorem sliceStable_any (E : Env) (ok : E.Ok) (h0 : E.SI (fun i => i) E.w0) :
    Calls Tryf.prog 12 #[.iface 26 (.slice E.p E.n E.cap), .func (.func 13) #[] #[.pointer (some ⟨E.A, 0, none⟩)]] E.w0 E.Sorted := by
  obtain ⟨i, hi, hd⟩ := slInfo
  obtain ⟨ie, hie, hpt, hby⟩ := ptrInfo
  have hs := fun f hf w => run_swapper_slice (P := Tryf.prog) 26 44 i ie hi hd hie 25 kind44 E.p E.n E.cap f hf w
  by_cases n0 : E.n = 0
  · have k : swapperK E.n ie 25 = 1 := by unfold swapperK; simp [n0]
    have := hs 26 (by rw [k]; exact lit1)
    rw [k] at this
    exact sliceStable_of E ok h0 26 #[] this (Env.okOf ok _ _ (fun d w h i j hi hj hij => by omega))
  · by_cases n1 : E.n = 1
    · have k : swapperK E.n ie 25 = 2 := by unfold swapperK; simp [n1]
      have := hs 27 (by rw [k]; exact lit2)
      rw [k] at this
      exact sliceStable_of E ok h0 27 #[] this (Env.okOf ok _ _ (fun d w h i j hi hj hij => by omega))
    · have k : swapperK E.n ie 25 = 9 := by unfold swapperK; simp [n0, n1, hpt, hby]
      have := hs 34 (by rw [k]; exact lit9)
      rw [k] at this
      exact sliceStable_of E ok h0 34 _ this (Env.okOf ok _ _ (Env.swap9 ok))
end Go.Proofs.Qxb6615733aFmt
