/-
  Seat b6615733aF: the shape of the states that came in.
-/
import Derived.Test.Qxb6615733aFmtWalkA
import Derived.ProofKit
import Derived.OpenShut
import Derived.Lib.SmallJoins
namespace Go.Proofs.Qxb6615733aFmt
open Go.ChangeShapes Go.WideShapes Go.ChangeAt Go.RowKit Go.Joins

theorem cells47 : Tryf.prog.cellsOf 47 = 9 := by kernel_rfl
theorem cells60 : Tryf.prog.cellsOf 60 = 2 := by kernel_rfl
theorem cells9 : Tryf.prog.cellsOf 9 = 1 := by kernel_rfl
theorem cells36 : Tryf.prog.cellsOf 36 = 1 := by kernel_rfl
theorem cells45 : Tryf.prog.cellsOf 45 = 1 := by kernel_rfl
theorem cells4 : Tryf.prog.cellsOf 4 = 1 := by kernel_rfl

theorem list_of {α : Type} (P : Nat → α → Prop) : ∀ n, (∀ i, i < n → ∃ x, P i x) → ∃ l : List α, l.length = n ∧ ∀ (i : Nat) (x : α), l[i]? = some x → P i x
  | 0, _ => ⟨[], rfl, fun i x h => by simp at h⟩
  | n + 1, h => by
    obtain ⟨l, hl, hp⟩ := list_of P n (fun i hi => h i (by omega))
    obtain ⟨x, hx⟩ := h n (by omega)
    refine ⟨l ++ [x], by simp [hl], fun i y hy => ?_⟩
    by_cases c : i < l.length
    · rw [List.getElem?_append_left c] at hy; exact hp i y hy
    · have hi := (List.getElem?_eq_some_iff.1 hy).1
      simp only [List.length_append, List.length_singleton] at hi
      have e : i = n := by omega
      subst e
      rw [List.getElem?_append_right (by omega), hl] at hy
      simp at hy
      subst hy
      exact hx
theorem mapM_at {f : Nat → Option Value} {n : Nat} {l : List Value} (h : (List.range n).mapM f = some l) : l.length = n ∧ ∀ k, k < n → ∃ v, l[k]? = some v ∧ f k = some v := by
  have h1 : l.length = n := by simpa using mapM_some_length h
  refine ⟨h1, fun k hk => ?_⟩
  have := mapM_some_get h k k (by simp [hk])
  exact ⟨l[k], getSome (by omega), by rw [this]; exact getSome (by omega)⟩
theorem cells_at {w : World} {base : Nat} {a : Addr} {n : Nat} {l : List Value} (h : w.cells? base a n = some l) : l.length = n ∧ ∀ k, k < n → ∃ v, l[k]? = some v ∧ w.cell? (a.add k) = some v := by
  unfold World.cells? at h
  split at h
  · exact mapM_at h
  · cases h
theorem spot_of {w : World} {a : Addr} {v : Value} (h : w.cell? a = some v) : a = ⟨a.block, a.off, none⟩ ∧ a.block < w.heap.size := by
  obtain ⟨b, o, s⟩ := a
  unfold World.cell? at h
  simp only at h
  split at h
  · rename_i hc
    refine ⟨?_, (Array.getElem?_eq_some_iff.1 hc).1⟩
    cases s with
    | none => rfl
    | some k => simp at h
  · cases h
theorem add_at (g o k : Nat) : (⟨g, o, none⟩ : Addr).add k = ⟨g, o + k, none⟩ := by
  unfold Addr.add
  split
  · rename_i h; subst h; rfl
  · rfl

section
variable {H : Type} {enc : TypeId × Value → H} {w : World} {base : Nat} {spare : Nat → Bool} {held : Bool}
theorem u64_of {n : Nat} {v : Value} {y : DataW H × List MemPlace} (h : DataW.trod enc Tryf.prog w base spare held n 36 [v] = some y) : ∃ x, v = .int .u64 x := by
  obtain ⟨a, e0, _, _⟩ := DataW.trod_int Tryf.underlying36 h
  exact ⟨a, by simpa using e0⟩
theorem bool_of {n : Nat} {v : Value} {y : DataW H × List MemPlace} (h : DataW.trod enc Tryf.prog w base spare held n 4 [v] = some y) : ∃ x, v = .bool x := by
  obtain ⟨a, e0, _⟩ := DataW.trod_bool Tryf.underlying4 h
  exact ⟨a, by simpa using e0⟩
theorem str_of {n : Nat} {v : Value} {y : DataW H × List MemPlace} (h : DataW.trod enc Tryf.prog w base spare held n 9 [v] = some y) : ∃ x, v = .string x ∧ x.size ≤ maxLen := by
  obtain ⟨a, e0, _, hm⟩ := DataW.trod_string Tryf.underlying9 h
  exact ⟨a, by simpa using e0, hm⟩
theorem pair_of {n : Nat} {cs : List Value} {y : DataW H × List MemPlace} (hl : cs.length = 2) (h : DataW.trod enc Tryf.prog w base spare held n 60 cs = some y) : ∃ x : Int × Int, cs = [.int .u64 x.1, .int .u64 x.2] := by
  obtain ⟨xs, m, _, _, _, hlen, hf⟩ := DataW.trod_struct Tryf.underlying60 h
  have h0 := hf 0 _ rfl
  have h1 := hf 1 _ rfl
  match cs, hl with
  | [c0, c1], _ =>
    match xs, hlen with
    | [y0, y1], _ =>
      simp [cells36] at h0 h1
      obtain ⟨a, rfl⟩ := u64_of h0
      obtain ⟨b, rfl⟩ := u64_of h1
      exact ⟨(a, b), rfl⟩
theorem eps_of {n : Nat} {v : Value} {y : DataW H × List MemPlace} (h : DataW.trod enc Tryf.prog w base spare held n 45 [v] = some y) : ∃ es, Ep w v es := by
  rcases DataW.trod_slice Tryf.underlying45 h with ⟨e, _⟩ | ⟨a, len, cap, elems, rest, m, _, e, _, _, hlc, hcm, hel, hi, _, _⟩
  · simp at e
    subst e
    exact ⟨[], none, 0, rfl, Nat.le_refl _, Nat.zero_le _, fun h => by simp at h⟩
  · simp at e
    subst e
    rw [cells60] at hi
    have key : ∀ i, i < len → ∃ x : Int × Int, w.cell? ((a.add (i * 2)).add 0) = some (.int .u64 x.1) ∧ w.cell? ((a.add (i * 2)).add 1) = some (.int .u64 x.2) := fun i hil => by
      have hb := hi i hil
      rw [getSome (by omega)] at hb
      obtain ⟨cs, hc, ht⟩ := Option.bind_eq_some_iff.1 hb
      obtain ⟨hl, hk⟩ := cells_at hc
      obtain ⟨x, rfl⟩ := pair_of hl ht
      obtain ⟨v0, e0, f0⟩ := hk 0 (by omega)
      obtain ⟨v1, e1, f1⟩ := hk 1 (by omega)
      simp at e0 e1
      subst e0 e1
      exact ⟨x, f0, f1⟩
    obtain ⟨es, hes, hP⟩ := list_of _ len key
    subst hes
    refine ⟨es, some a, cap, rfl, hlc, Nat.le_trans hlc hcm, fun h0 => ?_⟩
    have h00 := (hP 0 _ (getSome h0)).1
    rw [Nat.zero_mul, Addr.add, if_pos rfl, Addr.add, if_pos rfl] at h00
    obtain ⟨ea, hlt⟩ := spot_of h00
    obtain ⟨g, o, s⟩ := a
    simp only [Addr.mk.injEq] at ea
    obtain ⟨_, _, rfl⟩ := ea
    refine ⟨g, o, rfl, hlt, fun k x hx => ?_⟩
    obtain ⟨p0, p1⟩ := hP k x hx
    rw [add_at, add_at] at p0 p1
    exact ⟨p0, p1⟩
theorem st_of {n : Nat} {cs : List Value} {y : DataW H × List MemPlace} (hl : cs.length = 9) (h : DataW.trod enc Tryf.prog w base spare held n 47 cs = some y) : ∃ x : St, cs = [.string x.id, .string x.addr, .int .u64 x.first, .int .u64 x.last, .int .u64 x.prom, x.ep, .int .u64 x.bytes, .bool x.lost, .bool x.failed] ∧ Ep w x.ep x.es ∧ x.id.size ≤ maxLen ∧ x.addr.size ≤ maxLen := by
  obtain ⟨xs, m, _, _, _, hlen, hf⟩ := DataW.trod_struct Tryf.underlying47 h
  have h0 := hf 0 _ rfl
  have h1 := hf 1 _ rfl
  have h2 := hf 2 _ rfl
  have h3 := hf 3 _ rfl
  have h4 := hf 4 _ rfl
  have h5 := hf 5 _ rfl
  have h6 := hf 6 _ rfl
  have h7 := hf 7 _ rfl
  have h8 := hf 8 _ rfl
  clear h hf
  match cs, hl with
  | [c0, c1, c2, c3, c4, c5, c6, c7, c8], _ =>
    match xs, hlen with
    | [y0, y1, y2, y3, y4, y5, y6, y7, y8], _ =>
      simp [cells36, cells9, cells45, cells4] at h0 h1 h2 h3 h4 h5 h6 h7 h8
      obtain ⟨x0, rfl, m0⟩ := str_of h0
      obtain ⟨x1, rfl, m1⟩ := str_of h1
      obtain ⟨x2, rfl⟩ := u64_of h2
      obtain ⟨x3, rfl⟩ := u64_of h3
      obtain ⟨x4, rfl⟩ := u64_of h4
      obtain ⟨es, he⟩ := eps_of h5
      obtain ⟨x6, rfl⟩ := u64_of h6
      obtain ⟨x7, rfl⟩ := bool_of h7
      obtain ⟨x8, rfl⟩ := bool_of h8
      exact ⟨⟨x0, x1, x2, x3, x4, c5, es, x6, x7, x8⟩, rfl, he, m0, m1⟩
theorem arg_of {r : Reach} {b0 : Nat} {v : Value} {d : DataW H} {p : List MemPlace} (hv : Value.okWide Tryf.prog w r b0 22 v) (h : DataW.Trod enc Tryf.prog w base spare held 22 v d p) : ∃ xs, Arg w v xs := by
  obtain ⟨a0, l0, c0, rfl⟩ := okWide_slice Tryf.underlying22 hv
  obtain ⟨fuel, hf⟩ := h
  have hf' : DataW.trod enc Tryf.prog w base spare held fuel 22 [.slice a0 l0 c0] = some (d, p) := by simpa [Value.cells] using hf
  rcases DataW.trod_slice Tryf.underlying22 hf' with ⟨e, _⟩ | ⟨a, len, cap, elems, rest, m, _, e, _, _, hlc, hcm, hel, hi, _, _⟩
  · simp at e
    obtain ⟨rfl, rfl, rfl⟩ := e
    exact ⟨[], none, 0, rfl, Nat.le_refl _, Nat.zero_le _, fun h => by simp at h, fun i x h => by simp at h⟩
  · simp at e
    obtain ⟨rfl, rfl, rfl⟩ := e
    rw [cells47] at hi
    have key : ∀ i, i < l0 → ∃ x : St, (∀ k u, [Value.string x.id, .string x.addr, .int .u64 x.first, .int .u64 x.last, .int .u64 x.prom, x.ep, .int .u64 x.bytes, .bool x.lost, .bool x.failed][k]? = some u → w.cell? ((a.add (i * 9)).add k) = some u) ∧ Ep w x.ep x.es ∧ x.id.size ≤ maxLen ∧ x.addr.size ≤ maxLen := fun i hil => by
      have hb := hi i hil
      rw [getSome (by omega)] at hb
      obtain ⟨cs, hc, ht⟩ := Option.bind_eq_some_iff.1 hb
      obtain ⟨hl, hk⟩ := cells_at hc
      obtain ⟨x, rfl, hep, m0, m1⟩ := st_of hl ht
      refine ⟨x, fun k u hu => ?_, hep, m0, m1⟩
      obtain ⟨v, e1, e2⟩ := hk k (by have := (List.getElem?_eq_some_iff.1 hu).1; simpa using this)
      rw [e1] at hu
      cases hu
      exact e2
    obtain ⟨xs, hxs, hP⟩ := list_of _ l0 key
    subst hxs
    refine ⟨xs, some a, c0, rfl, hlc, Nat.le_trans hlc hcm, fun h0 => ?_, fun i x hx => (hP i x hx).2⟩
    have h00 := (hP 0 _ (getSome h0)).1 0 _ rfl
    rw [Nat.zero_mul, Addr.add, if_pos rfl, Addr.add, if_pos rfl] at h00
    obtain ⟨ea, hlt⟩ := spot_of h00
    obtain ⟨g, o, s⟩ := a
    simp only [Addr.mk.injEq] at ea
    obtain ⟨_, _, rfl⟩ := ea
    refine ⟨g, o, rfl, hlt, fun i x hx => ?_⟩
    have hk : ∀ k u, [Value.string x.id, .string x.addr, .int .u64 x.first, .int .u64 x.last, .int .u64 x.prom, x.ep, .int .u64 x.bytes, .bool x.lost, .bool x.failed][k]? = some u → w.cell? ⟨g, o + i * 9 + k, none⟩ = some u := fun k u hu => by
      have := (hP i x hx).1 k u hu
      rw [add_at, add_at] at this
      exact this
    exact ⟨hk 0 _ rfl, hk 1 _ rfl, hk 2 _ rfl, hk 3 _ rfl, hk 4 _ rfl, hk 5 _ rfl, hk 6 _ rfl, hk 7 _ rfl, hk 8 _ rfl⟩
end
end Go.Proofs.Qxb6615733aFmt
