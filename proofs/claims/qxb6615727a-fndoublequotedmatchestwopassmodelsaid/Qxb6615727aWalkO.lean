/-
  Seat b6615727a: the two-pass model's second pass: what its loop keeps.
-/
import Derived.Test.Qxb6615727aWalkM
import Derived.Laws.IdiomStrings
namespace Go.Proofs.Qxb6615727a
open Go.RowKit

/-- the kinds' row as the second loop reads it. -/
theorem row_read {w : World} {B : Nat} {e : TypeId} {v : Value} {n : Nat} {xs : List Value} (h : w.ownsRow B e 1 v n xs) (hn : 0 < n) :
    ∃ g cap, v = .slice (some ⟨g, 0, none⟩) n cap ∧ n ≤ cap ∧ g < w.heap.size ∧ ∀ j x, xs[j]? = some x → w.cell? ⟨g, j, none⟩ = some x := by
  rcases h.2 with ⟨_, h0⟩ | ⟨g, cap, cur, hv, _, hg, hc, _, hsz, ht⟩
  · omega
  · refine ⟨g, cap, hv, hc, ?_, ?_⟩
    · rcases Nat.lt_or_ge g w.heap.size with hlt | hge
      · exact hlt
      · rw [Array.getElem?_eq_none hge] at hg; cases hg
    · intro j x hx
      have hj : j < xs.length := (List.getElem?_eq_some_iff.1 hx).1
      have hl := h.1
      rw [← ht, List.getElem?_take_of_lt (by omega), Array.getElem?_toList] at hx
      simp only [World.cell?, hg]
      simpa using hx
theorem row_len {w : World} {B : Nat} {e : TypeId} {ao : Option Addr} {m c n : Nat} {xs : List Value} (h : w.ownsRow B e 1 (.slice ao m c) n xs) : m = n := by
  rcases h.2 with ⟨h1, h0⟩ | ⟨g, cap, cur, hv, _⟩
  · cases h1; exact h0.symm
  · cases hv; rfl

/-- string(out). -/
theorem conv_row {P : Program} {src dst e : TypeId} (hs : P.underlying src = some (.slice e)) (he : P.underlying e = some (.int .u8)) (hd : P.underlying dst = some .string) {w : World} {B : Nat} {ao : Option Addr} {m c : Nat} {bs : List UInt8} (ho : w.ownsRow B 5 1 (.slice ao m c) (Lib.byteCells bs).length (Lib.byteCells bs)) :
    (convert src dst (.slice ao m c)).run P w = .ok (.string ⟨bs.toArray⟩) w := by
  have hm := row_len ho
  rw [Lib.byteCells_length] at hm
  subst hm
  rcases Nat.eq_zero_or_pos bs.length with h0 | h0
  · have hb : bs = [] := List.length_eq_zero_iff.mp h0
    subst hb
    rw [run_convert_bytes_string w src dst e ao _ c hs he hd]
    cases ao <;> rfl
  · obtain ⟨g, cap, hv, _, _, hc⟩ := row_read ho (by rw [Lib.byteCells_length]; exact h0)
    simp only [Value.slice.injEq] at hv
    obtain ⟨rfl, _, rfl⟩ := hv
    refine run_convert_bytes_back (P := P) w src dst e ⟨g, 0, none⟩ c bs hs he hd (fun j hj => ?_)
    have h1 := hc j (.int .u8 ((bs[j]).toNat : Int)) (by unfold Lib.byteCells; rw [List.getElem?_map, List.getElem?_eq_getElem hj]; rfl)
    rw [← h1]
    unfold Addr.add
    split
    · rename_i h; subst h; rfl
    · simp
theorem conv_out {w : World} {B : Nat} {ao : Option Addr} {m c : Nat} {bs : List UInt8} (h : OB B (Lib.byteCells bs) (.slice ao m c) w) : (convert 58 9 (.slice ao m c)).run Try.prog w = .ok (.string ⟨bs.toArray⟩) w :=
  conv_row Try.underlying58 Try.underlying5 Try.underlying9 h.2

/-- the walk's state in the second loop. -/
def Td (B : Nat) (ts : List (Bool × Nat)) (w : World) (o k : Value) (wr : World) : Prop :=
  ∃ (q : Nat) (bs : List UInt8), k = .int .i64 q ∧ q ≤ ts.length ∧ OB B (Lib.byteCells bs) o wr ∧ Below B w wr ∧ bs ++ dec (ts.drop q) = dec ts ∧ bs.length ≤ 4 * q
theorem Td.next {B : Nat} {ts : List (Bool × Nat)} {w wr : World} {o : Value} {q d : Nat} {bs cs : List UInt8} {z : Int} (hz : z = ((q + d : Nat) : Int)) (hq : q + d ≤ ts.length) (hO : OB B (Lib.byteCells bs ++ Lib.byteCells cs) o wr) (hb : Below B w wr)
    (hd : bs ++ dec (ts.drop q) = dec ts) (hs : dec (ts.drop q) = cs ++ dec (ts.drop (q + d))) (hl : bs.length ≤ 4 * q) (hc : cs.length ≤ 4 * d) : Td B ts w o (.int .i64 z) wr := by
  refine ⟨q + d, bs ++ cs, by rw [hz], hq, ?_, hb, ?_, by rw [List.length_append]; omega⟩
  · unfold Lib.byteCells at hO ⊢; rw [List.map_append]; exact hO
  · rw [← hd, hs, List.append_assoc]
theorem dec_b {ts : List (Bool × Nat)} {q v : Nat} (h : ts[q]? = some (false, v)) : dec (ts.drop q) = [v.toUInt8] ++ dec (ts.drop (q + 1)) := by
  obtain ⟨hq, e⟩ := List.getElem?_eq_some_iff.1 h
  rw [List.drop_eq_getElem_cons hq, e, dec]; rfl
theorem dec_1 {ts : List (Bool × Nat)} {q v : Nat} (h : ts[q]? = some (true, v)) (hp : ∀ lo, ts[q + 1]? = some (true, lo) → pairUp v lo = none) : dec (ts.drop q) = Lib.encodeRune (one v : Nat) ++ dec (ts.drop (q + 1)) := by
  obtain ⟨hq, e⟩ := List.getElem?_eq_some_iff.1 h
  rw [List.drop_eq_getElem_cons hq, e]
  refine dec_unit v _ (fun lo t ht => hp lo ?_)
  have h0 : (ts.drop (q + 1))[0]? = some (true, lo) := by rw [ht]; rfl
  rw [List.getElem?_drop] at h0
  exact h0
theorem dec_2 {ts : List (Bool × Nat)} {q v lo r : Nat} (h : ts[q]? = some (true, v)) (h2 : ts[q + 1]? = some (true, lo)) (hp : pairUp v lo = some r) : dec (ts.drop q) = Lib.encodeRune (r : Nat) ++ dec (ts.drop (q + 2)) := by
  obtain ⟨hq, e⟩ := List.getElem?_eq_some_iff.1 h
  obtain ⟨hq2, e2⟩ := List.getElem?_eq_some_iff.1 h2
  rw [List.drop_eq_getElem_cons hq, e, List.drop_eq_getElem_cons hq2, e2, dec, hp]
/-- a unit that is no surrogate. -/
theorem dec_plain {ts : List (Bool × Nat)} {q v : Nat} {z : Int} (hz : z = (v : Int)) (h : ts[q]? = some (true, v)) (hs : z < 55296 ∨ 57343 < z) : dec (ts.drop q) = Lib.encodeRune z ++ dec (ts.drop (q + 1)) := by
  have hn : isSur v = false := by unfold isSur; simp; omega
  rw [dec_1 h (fun lo _ => ?_)]
  · unfold one; rw [hn, hz]; rfl
  · unfold pairUp; rw [if_neg (by omega)]
/-- a surrogate without its fellow. -/
theorem dec_lone {ts : List (Bool × Nat)} {q v : Nat} {z : Int} (hz : z = (v : Int)) (h : ts[q]? = some (true, v)) (h1 : 55296 ≤ z) (h2 : z ≤ 57343) (hp : ∀ lo : Nat, ts[q + 1]? = some (true, lo) → 56319 < z ∨ (lo : Int) < 56320 ∨ 57343 < (lo : Int)) :
    dec (ts.drop q) = Lib.encodeRune 65533 ++ dec (ts.drop (q + 1)) := by
  have hn : isSur v = true := by unfold isSur; simp; omega
  rw [dec_1 h (fun lo hlo => ?_)]
  · unfold one; rw [hn]; rfl
  · have := hp lo hlo
    unfold pairUp; rw [if_neg (by omega)]
theorem dec_pair {ts : List (Bool × Nat)} {q v lo : Nat} {z y : Int} (hz : z = (v : Int)) (hy : y = (lo : Int)) (h : ts[q]? = some (true, v)) (h2 : ts[q + 1]? = some (true, lo)) (a : 55296 ≤ z) (b : z ≤ 56319) (c : 56320 ≤ y) (d : y ≤ 57343) :
    dec (ts.drop q) = Lib.encodeRune (65536 + (z - 55296) * 1024 + (y - 56320)) ++ dec (ts.drop (q + 2)) := by
  have hp : pairUp v lo = some (65536 + (v - 55296) * 1024 + (lo - 56320)) := by unfold pairUp; rw [if_pos (by omega)]
  rw [dec_2 h h2 hp]
  have e : ((65536 + (v - 55296) * 1024 + (lo - 56320) : Nat) : Int) = 65536 + (z - 55296) * 1024 + (y - 56320) := by omega
  rw [e]
/-- a round's end behind appendRune. -/
theorem Td.rune {B : Nat} {ts : List (Bool × Nat)} {w wr W : World} {o : Value} {q d : Nat} {bs : List UInt8} {z r : Int} (hz : z = ((q + d : Nat) : Int)) (hq : q + d ≤ ts.length) (h1 : 1 ≤ d) (hO : OB B (Lib.byteCells bs ++ Lib.runeCells r) o W) (hb : Below B w wr) (hb2 : Below B wr W)
    (hd : bs ++ dec (ts.drop q) = dec ts) (hs : dec (ts.drop q) = Lib.encodeRune r ++ dec (ts.drop (q + d))) (hl : bs.length ≤ 4 * q) : Td B ts w o (.int .i64 z) W := by
  have hle := (Lib.runeCells_le r).2
  rw [Lib.runeCells_length] at hle
  exact Td.next hz hq (by rw [Lib.byteCells_encodeRune]; exact hO) (hb.trans hb2) hd hs hl (by omega)
/-- a round's end behind a byte. -/
theorem Td.byte {B : Nat} {ts : List (Bool × Nat)} {w wr W : World} {o : Value} {q v : Nat} {bs : List UInt8} {x z : Int} (hz : z = ((q + 1 : Nat) : Int)) (hq : q + 1 ≤ ts.length) (hx : x = (v : Int) % 256) (hO : OB B (Lib.byteCells bs ++ [.int .u8 x]) o W) (hb : Below B w wr) (hb2 : Below B wr W)
    (hd : bs ++ dec (ts.drop q) = dec ts) (ht : ts[q]? = some (false, v)) (hl : bs.length ≤ 4 * q) : Td B ts w o (.int .i64 z) W := by
  refine Td.next (cs := [v.toUInt8]) hz hq ?_ (hb.trans hb2) hd (dec_b ht) hl (by simp)
  have : Lib.byteCells [v.toUInt8] = [.int .u8 x] := by
    unfold Lib.byteCells
    simp [hx]
  rw [this]; exact hO
/-- a cell of the kinds' or the units' row, read in the second loop. -/
theorem row_at {w wq : World} {B : Nat} {e : TypeId} {ao : Option Addr} {m c n : Nat} {xs : List Value} (h : w.ownsRow B e 1 (.slice ao m c) n xs) (hn : 0 < n) (hb : Below w.heap.size w wq) :
    ∃ g, ao = some ⟨g, 0, none⟩ ∧ n ≤ c ∧ ∀ j x, xs[j]? = some x → wq.cell? ⟨g, j, none⟩ = some x := by
  obtain ⟨g, cap, hv, hc, hg, hx⟩ := row_read h hn
  cases hv
  exact ⟨g, rfl, hc, fun j x hj => by rw [hb.cell (p := ⟨g, j, none⟩) hg]; exact hx j x hj⟩
end Go.Proofs.Qxb6615727a
