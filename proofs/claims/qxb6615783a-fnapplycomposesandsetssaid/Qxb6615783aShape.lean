/-
  Seat b6615783a: the shape of an entry and of a look that came in.
-/
import Derived.Test.Qxb6615783aPlain
import Derived.ProofKit
import Derived.OpenShut
import Derived.Lib.SmallJoins
namespace Go.Proofs.Qxb6615783a
open Go.ChangeShapes Go.WideShapes Go.ChangeAt Go.RowKit Go.Joins

theorem cells26 : Try.prog.cellsOf 26 = 13 := by kernel_rfl
theorem cells28 : Try.prog.cellsOf 28 = 9 := by kernel_rfl
theorem cells24 : Try.prog.cellsOf 24 = 3 := by kernel_rfl
theorem cells4 : Try.prog.cellsOf 4 = 1 := by kernel_rfl
theorem cells3 : Try.prog.cellsOf 3 = 1 := by kernel_rfl
theorem cells22 : Try.prog.cellsOf 22 = 1 := by kernel_rfl

section
variable {H : Type} {enc : TypeId × Value → H} {w : World} {base : Nat} {spare : Nat → Bool} {held : Bool}

theorem int_of {n : Nat} {t : TypeId} {k : IntKind} {v : Value} {y : DataW H × List MemPlace} (ht : Try.prog.underlying t = some (.int k)) (h : DataW.trod enc Try.prog w base spare held n t [v] = some y) : ∃ x, v = .int k x := by
  obtain ⟨a, e0, _, _⟩ := DataW.trod_int ht h
  exact ⟨a, by simpa using e0⟩
theorem bool_of {n : Nat} {v : Value} {y : DataW H × List MemPlace} (h : DataW.trod enc Try.prog w base spare held n 4 [v] = some y) : ∃ x, v = .bool x := by
  obtain ⟨a, e0, _⟩ := DataW.trod_bool Try.underlying4 h
  exact ⟨a, by simpa using e0⟩
theorem col_of {n : Nat} {a b c : Value} {y : DataW H × List MemPlace} (h : DataW.trod enc Try.prog w base spare held n 24 [a, b, c] = some y) : ∃ x : Col, a = .bool x.s ∧ b = .int .u32 x.r ∧ c = .int .i64 x.a := by
  obtain ⟨xs, m, _, _, _, hlen, hf⟩ := DataW.trod_struct Try.underlying24 h
  have h0 := hf 0 _ rfl
  have h1 := hf 1 _ rfl
  have h2 := hf 2 _ rfl
  match xs, hlen with
  | [y0, y1, y2], _ =>
    simp [cells4, cells22, cells3] at h0 h1 h2
    obtain ⟨s, rfl⟩ := bool_of h0
    obtain ⟨r, rfl⟩ := int_of Try.underlying22 h1
    obtain ⟨x, rfl⟩ := int_of Try.underlying3 h2
    exact ⟨⟨s, r, x⟩, rfl, rfl, rfl⟩
theorem lk_list {n : Nat} {cs : List Value} {y : DataW H × List MemPlace} (hl : cs.length = 9) (h : DataW.trod enc Try.prog w base spare held n 28 cs = some y) : ∃ l : Lk, cs = (lkC l).toList := by
  obtain ⟨xs, m, _, _, _, hlen, hf⟩ := DataW.trod_struct Try.underlying28 h
  have h0 := hf 0 _ rfl
  have h1 := hf 1 _ rfl
  have h2 := hf 2 _ rfl
  have h3 := hf 3 _ rfl
  have h4 := hf 4 _ rfl
  clear h hf
  match cs, hl with
  | [c0, c1, c2, c3, c4, c5, c6, c7, c8], _ =>
    match xs, hlen with
    | [y0, y1, y2, y3, y4], _ =>
      simp [cells4, cells24] at h0 h1 h2 h3 h4
      obtain ⟨x0, rfl, rfl, rfl⟩ := col_of h0
      obtain ⟨x1, rfl, rfl, rfl⟩ := col_of h1
      obtain ⟨x2, rfl⟩ := bool_of h2
      obtain ⟨x3, rfl⟩ := bool_of h3
      obtain ⟨x4, rfl⟩ := bool_of h4
      exact ⟨⟨x0, x1, x2, x3, x4⟩, rfl⟩
theorem ent_list {n : Nat} {cs : List Value} {y : DataW H × List MemPlace} (hl : cs.length = 13) (h : DataW.trod enc Try.prog w base spare held n 26 cs = some y) : ∃ e : Ent, cs = (entC e).toList := by
  obtain ⟨xs, m, _, _, _, hlen, hf⟩ := DataW.trod_struct Try.underlying26 h
  have h0 := hf 0 _ rfl
  have h1 := hf 1 _ rfl
  have h2 := hf 2 _ rfl
  have h3 := hf 3 _ rfl
  have h4 := hf 4 _ rfl
  have h5 := hf 5 _ rfl
  have h6 := hf 6 _ rfl
  clear h hf
  match cs, hl with
  | [c0, c1, c2, c3, c4, c5, c6, c7, c8, c9, c10, c11, c12], _ =>
    match xs, hlen with
    | [y0, y1, y2, y3, y4, y5, y6], _ =>
      simp [cells4, cells24, cells3] at h0 h1 h2 h3 h4 h5 h6
      obtain ⟨x0, rfl⟩ := bool_of h0
      obtain ⟨x1, rfl, rfl, rfl⟩ := col_of h1
      obtain ⟨x2, rfl, rfl, rfl⟩ := col_of h2
      obtain ⟨x3, rfl, rfl, rfl⟩ := col_of h3
      obtain ⟨x4, rfl⟩ := int_of Try.underlying3 h4
      obtain ⟨x5, rfl⟩ := int_of Try.underlying3 h5
      obtain ⟨x6, rfl⟩ := int_of Try.underlying3 h6
      exact ⟨⟨x0, x1, x2, x3, x4, x5, x6⟩, rfl⟩
theorem lk_of {r : Reach} {b0 : Nat} {v : Value} {d : DataW H} {p : List MemPlace} (hv : Value.okWide Try.prog w r b0 28 v) (h : DataW.Trod enc Try.prog w base spare held 28 v d p) : ∃ l : Lk, v = .agg (lkC l) := by
  obtain ⟨cs, rfl, hsz⟩ := okWide_struct Try.underlying28 hv
  obtain ⟨fuel, hf⟩ := h
  obtain ⟨l, hl⟩ := lk_list (cs := cs.toList) (by rw [Array.length_toList]; exact hsz.trans cells28) (by simpa [Value.cells] using hf)
  exact ⟨l, by rw [Array.ext' hl]⟩
theorem ent_of {r : Reach} {b0 : Nat} {v : Value} {d : DataW H} {p : List MemPlace} (hv : Value.okWide Try.prog w r b0 26 v) (h : DataW.Trod enc Try.prog w base spare held 26 v d p) : ∃ e : Ent, v = .agg (entC e) := by
  obtain ⟨cs, rfl, hsz⟩ := okWide_struct Try.underlying26 hv
  obtain ⟨fuel, hf⟩ := h
  obtain ⟨l, hl⟩ := ent_list (cs := cs.toList) (by rw [Array.length_toList]; exact hsz.trans cells26) (by simpa [Value.cells] using hf)
  exact ⟨l, by rw [Array.ext' hl]⟩
end
end Go.Proofs.Qxb6615783a
