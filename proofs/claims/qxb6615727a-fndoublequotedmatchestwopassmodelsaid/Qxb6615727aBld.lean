/-
  Seat b6615727a: strings.Builder's writing methods at this program (its copyCheck bears a statement that the model refuses, so that the shelf's own contracts of these methods do not lie here): walked over the library's laws on a row that the call owns.
-/
import Derived.Test.Qxb6615727aShelf
import Derived.Test.Qxb6615727aRows
import Derived.WalkKit
import Derived.WalkSpells
import Derived.WalkLawsBesides
import Derived.Lib.FrozenHead2
import Derived.Lib.OthersKept
namespace Go.Proofs.Qxb6615727a
open Go.RowKit Go.Shelf

theorem bldSize : (Try.prog.info? 66).map (·.size) = some 2 := by kernel_rfl
theorem bldLies : liesAt Try.prog Try.prog.depth 66 (2 / Try.prog.cellsOf 66) 0 66 1 = true := by kernel_rfl

set_option maxHeartbeats 1000000 in
set_option maxRecDepth 100000 in
theorem copyCheck_fresh (b : Nat) (w : World) (hc : w.cell? ⟨b, 0, none⟩ = some (.pointer none)) (hs : w.shape? b = some (66, 2)) (hf : w.frozen? ⟨b, 0, none⟩ = false) :
    Calls Try.prog 45 #[.pointer (some ⟨b, 0, none⟩)] w fun e w' => e = .returned (.tuple #[]) ∧ w' = w.setCell ⟨b, 0, none⟩ (.pointer (some ⟨b, 0, none⟩)) := by
  obtain ⟨j, hj, hjs⟩ := Option.map_eq_some_iff.1 bldSize
  have h1 := Lib.run_to_unsafe (P := Try.prog) w ⟨b, 0, none⟩ Try.underlying64 Try.underlying79 hj (by rw [hjs]; decide) hs (Nat.zero_lt_succ 1)
  have h2 := Lib.run_from_unsafe (P := Try.prog) w ⟨b, 0, none⟩ Try.underlying79 Try.underlying64 hj hs bldLies
  have h3 : ∀ x, (callFunc 48 #[x]).run Try.prog w = .ok (.value x) w := fun x => by
    rw [run_callFunc_extern Try.func48 (by kernel_rfl) (by kernel_rfl) (by kernel_rfl) (e := Extern.AbiNoEscape.same) (by kernel_rfl), Lib.run_noEscape]
    rfl
  clear hs hj hjs
  go_enter Try.func45, Try.ntmps45
  go_wp2
  go_end0
  exact ⟨rfl, rfl⟩
set_option maxHeartbeats 1000000 in
set_option maxRecDepth 100000 in
theorem copyCheck_used (b : Nat) (w : World) (hc : w.cell? ⟨b, 0, none⟩ = some (.pointer (some ⟨b, 0, none⟩))) :
    Calls Try.prog 45 #[.pointer (some ⟨b, 0, none⟩)] w fun e w' => e = .returned (.tuple #[]) ∧ w = w' := by
  obtain ⟨j, hj, _⟩ := Option.map_eq_some_iff.1 bldSize
  have h1 := Lib.run_neq_ptr_same (P := Try.prog) w ⟨b, 0, none⟩ Try.underlying64 hj
  clear hj
  go_enter Try.func45, Try.ntmps45
  go_wp2
  go_end0
  exact ⟨rfl, rfl⟩

/-- The call's own builder, in block B, with the bytes l in it. -/
def Bd (B : Nat) (l : List UInt8) (w : World) : Prop := Lib.IsBuilderF 66 5 B B (Lib.byteCells l) w

theorem Bd.lt {B : Nat} {l : List UInt8} {w : World} (h : Bd B l w) : B < w.heap.size := by
  rcases h with h | h
  · exact h.lt
  · exact h.lt
theorem Bd.fresh (w : World) : Bd w.heap.size [] (w.alloc (.cells #[.pointer none, .slice none 0 0] 66)) := Lib.IsBuilderF.of (Lib.fresh_isBuilder 66 5 w)
theorem Bd.drewN {B : Nat} {l : List UInt8} {w : World} (h : Bd B l w) (n : Nat) : Bd B l (w.drewN n) := h
/-- a store below the builder leaves it. -/
theorem Bd.store {B : Nat} {l : List UInt8} {w : World} (h : Bd B l w) (p : Addr) (hp : p.block < B) (x : Value) : Bd B l (w.setCell p x) := by
  have key : ∀ q, Lib.BuilderAtF 66 5 B B q (Lib.byteCells l) w → Lib.BuilderAtF 66 5 B B q (Lib.byteCells l) (w.setCell p x) := by
    rintro q ⟨hB, v, hb, hown, hne⟩
    refine ⟨hB, v, ?_, ?_, hne⟩
    · rw [Below.heap_setCell _ _ _ _ (by omega)]; exact hb
    · refine hown.kept (row := some p.block) ⟨rfl, rfl, rfl, by simp [World.setCell], fun k _ hk => Below.heap_setCell _ _ _ _ (fun e => hk (by simp [e]))⟩ ?_
      refine Or.inr fun e => ?_
      have := (hown.lt _ e).1
      omega
  exact h.elim (fun x => .inl (key _ x)) (fun x => .inr (key _ x))

theorem copyCheck_at (B : Nat) (bs : List Value) (w : World) (h : Lib.IsBuilderF 66 5 B B bs w) :
    Calls Try.prog 45 #[.pointer (some ⟨B, 0, none⟩)] w fun e w' => e = .returned (.tuple #[]) ∧ Lib.BuilderAtF 66 5 B B (.pointer (some ⟨B, 0, none⟩)) bs w' ∧ Below B w w' := by
  rcases h with h | h
  · refine (copyCheck_fresh B w h.cell0 h.shape h.frozen0).mono ?_
    rintro e w' ⟨rfl, rfl⟩
    exact ⟨rfl, h.used _, (Below.refl B w).setCell (p := ⟨B, 0, none⟩) h.1 _⟩
  · refine (copyCheck_used B w h.cell0).mono ?_
    rintro e w' ⟨rfl, rfl⟩
    exact ⟨rfl, h, Below.refl B _⟩

theorem byteInfo : ∃ i, Try.prog.info? 5 = some i ∧ i.zero = some (.int .u8 0) ∧ i.size = 1 ∧ i.bytes = 1 := info_parts Try.Builder_Extra_169.infoByte

set_option maxHeartbeats 2000000 in
set_option maxRecDepth 100000 in
theorem writeByte (B : Nat) (l : List UInt8) (c : UInt8) (z : Int) (w : World) (h : Bd B l w) (hz : z = (c.toNat : Int)) (hlen : l.length + 1 ≤ 140737488355328) :
    Calls Try.prog 40 #[.pointer (some ⟨B, 0, none⟩), .int .u8 z] w fun e w' => e = .returned .nilIface ∧ Bd B (l ++ [c]) w' ∧ Below B w w' := by
  subst hz
  obtain ⟨i0, hi, hz0, hz1, hz2⟩ := byteInfo
  have hBw := Nat.le_of_lt h.lt
  have hll : (Lib.byteCells l).length = l.length := Lib.byteCells_length l
  have HL : Hid _ := hll
  clear hll
  go_enter Try.func40, Try.ntmps40
  go_wp2_with fail
  refine (copyCheck_at B _ _ h).mono ?_
  rintro e w1 ⟨rfl, h1, hb1⟩
  obtain ⟨hB, v, hbk, hown, hne⟩ := h1
  have c0 : w1.cell? ⟨B, 0, none⟩ = some (.pointer (some ⟨B, 0, none⟩)) := by rw [Lib.cell_of_heap hbk]; rfl
  have c1 : w1.cell? ⟨B, 1, none⟩ = some v := by rw [Lib.cell_of_heap hbk]; rfl
  go_wp2_with (at_builtin; refine wpList_append_ownF _ rfl _ _ 58 rfl B 5 i0 (.int .u8 0) 1 1 Try.underlying58 hi hz0 hz1 hz2 rfl (by decide) _ _ _ rfl (hown.alloc _) ⟨w1.heap.size, 0, none⟩ 1 1 [.int .u8 c.toNat] rfl rfl ?c1 ?c2 ?c3 ?c4 ?c5 ?_)
  case c1 =>
    intro j u hj
    match j, hj with
    | 0, hj => simp at hj; subst hj; simp [Addr.add]
  case c2 => intro u hu; simp at hu; subst hu; rfl
  case c3 => rw [HL.out]; unfold maxLen; omega
  case c4 => rw [HL.out]; omega
  case c5 => have := hb1.size; simp; omega
  intro v' w2 hown' hgrow _
  have hlt : B < w1.heap.size := by have := hb1.size; have := h.lt; omega
  have hb2 : w2.heap[B]? = some (.cells #[.pointer (some ⟨B, 0, none⟩), v] 66 (0, 0)) := by
    rw [hgrow.block B (by simp; omega) (fun e => hne e.symm), Lib.alloc_old w1 _ B hlt]
    exact hbk
  have d0 : w2.cell? ⟨B, 0, none⟩ = some (.pointer (some ⟨B, 0, none⟩)) := by rw [Lib.cell_of_heap hb2]; rfl
  have d1 : w2.cell? ⟨B, 1, none⟩ = some v := by rw [Lib.cell_of_heap hb2]; rfl
  have f1 : w2.frozen? ⟨B, 1, none⟩ = false := Lib.frozen_of_heap hb2 1
  obtain ⟨g, cap, rfl⟩ : ∃ g cap, v' = .slice (some ⟨g, 0, none⟩) ((Lib.byteCells l).length + 1) cap := by
    rcases hown'.2 with ⟨_, h0⟩ | ⟨g, cap, cur, fz, hv, _⟩
    · omega
    · exact ⟨g, cap, hv⟩
  go_wp2
  go_ret
  refine ⟨rfl, Or.inr ?_, ?_⟩
  · rw [Lib.byteCells_append]
    exact Lib.BuilderAtF.put (T := 66) (e := 5) hB hb2 (bs' := Lib.byteCells l ++ Lib.byteCells [c]) (by simpa [Lib.byteCells] using hown') (by decide)
  · exact ((hb1.alloc (by have := hb1.size; omega) _).grown hgrow (by have := hb1.size; simp; omega) (fun k hk => (hown.lt k hk).1)).setCell (p := ⟨B, 1, none⟩) hB _

set_option maxHeartbeats 2000000 in
set_option maxRecDepth 100000 in
theorem writeString (B : Nat) (l : List UInt8) (s : ByteArray) (w : World) (h : Bd B l w) (hlen : l.length + s.size ≤ 140737488355328) :
    Calls Try.prog 38 #[.pointer (some ⟨B, 0, none⟩), .string s] w fun e w' => e = .returned (.tuple #[.int .i64 s.size, .nilIface]) ∧ Bd B (l ++ s.data.toList) w' ∧ Below B w w' := by
  obtain ⟨i0, hi, hz0, hz1, hz2⟩ := byteInfo
  have hBw := Nat.le_of_lt h.lt
  have hll : (Lib.byteCells l).length = l.length := Lib.byteCells_length l
  have HL : Hid _ := hll
  clear hll
  go_enter Try.func38, Try.ntmps38
  go_wp2_with fail
  refine (copyCheck_at B _ _ h).mono ?_
  rintro e w1 ⟨rfl, h1, hb1⟩
  obtain ⟨hB, v, hbk, hown, hne⟩ := h1
  have c0 : w1.cell? ⟨B, 0, none⟩ = some (.pointer (some ⟨B, 0, none⟩)) := by rw [Lib.cell_of_heap hbk]; rfl
  have c1 : w1.cell? ⟨B, 1, none⟩ = some v := by rw [Lib.cell_of_heap hbk]; rfl
  go_wp2_with (at_builtin; refine Lib.wpList_append_own_stringF _ rfl _ _ 58 9 rfl B 5 i0 Try.underlying58 Try.underlying9 hi hz0 hz1 hz2 _ _ _ rfl hown s rfl ?c3 ?c4 ?c5 ?_)
  case c3 => rw [HL.out]; unfold maxLen; omega
  case c4 => rw [HL.out]; omega
  case c5 => have := hb1.size; omega
  intro v' w2 hown' hgrow _
  have hlt : B < w1.heap.size := by have := hb1.size; have := h.lt; omega
  have hb2 : w2.heap[B]? = some (.cells #[.pointer (some ⟨B, 0, none⟩), v] 66 (0, 0)) := by
    rw [hgrow.block B hlt (fun e => hne e.symm)]
    exact hbk
  have d0 : w2.cell? ⟨B, 0, none⟩ = some (.pointer (some ⟨B, 0, none⟩)) := by rw [Lib.cell_of_heap hb2]; rfl
  have d1 : w2.cell? ⟨B, 1, none⟩ = some v := by rw [Lib.cell_of_heap hb2]; rfl
  have f1 : w2.frozen? ⟨B, 1, none⟩ = false := Lib.frozen_of_heap hb2 1
  obtain ⟨ao, n', cap, rfl⟩ : ∃ ao n' cap, v' = .slice ao n' cap := by
    rcases hown'.2 with ⟨hv, _⟩ | ⟨g, cap, cur, fz, hv, _⟩
    · exact ⟨_, _, _, hv⟩
    · exact ⟨_, _, _, hv⟩
  go_wp2
  go_ret2
  refine ⟨rfl, Or.inr ?_, ?_⟩
  · rw [Lib.byteCells_append, ← Lib.strCells_eq]
    exact Lib.BuilderAtF.put (T := 66) (e := 5) hB hb2 (bs' := Lib.byteCells l ++ Lib.strCells s) (by simpa [Lib.strCells_length] using hown') (by decide)
  · exact (hb1.grown hgrow (by have := hb1.size; omega) (fun k hk => (hown.lt k hk).1)).setCell (p := ⟨B, 1, none⟩) hB _

set_option maxHeartbeats 2000000 in
set_option maxRecDepth 100000 in
theorem writeRune (B : Nat) (l : List UInt8) (r : Int) (w : World) (h : Bd B l w) (hr0 : -2147483648 ≤ r) (hr1 : r ≤ 2147483647) (hlen : l.length + 4 ≤ 140737488355328) :
    Calls Try.prog 44 #[.pointer (some ⟨B, 0, none⟩), .int .i32 r] w fun e w' => e = .returned (.tuple #[.int .i64 (Lib.runeCells r).length, .nilIface]) ∧ Bd B (l ++ Lib.encodeRune r) w' ∧ Below B w w' := by
  have hBw := Nat.le_of_lt h.lt
  have hll : (Lib.byteCells l).length = l.length := Lib.byteCells_length l
  have HL : Hid _ := hll
  clear hll
  have hk4 := Lib.runeCells_le r
  go_enter Try.func44, Try.ntmps44
  go_wp2_with fail
  refine (copyCheck_at B _ _ h).mono ?_
  rintro e w1 ⟨rfl, h1, hb1⟩
  obtain ⟨hB, v, hbk, hown, hne⟩ := h1
  obtain ⟨ao, cap, rfl⟩ : ∃ ao cap, v = .slice ao (Lib.byteCells l).length cap := by
    rcases hown.2 with ⟨hv, h0⟩ | ⟨g, cap, cur, fz, hv, _⟩
    · exact ⟨none, 0, by rw [hv, h0]⟩
    · exact ⟨_, _, hv⟩
  have c0 : w1.cell? ⟨B, 0, none⟩ = some (.pointer (some ⟨B, 0, none⟩)) := by rw [Lib.cell_of_heap hbk]; rfl
  have c1 : w1.cell? ⟨B, 1, none⟩ = some (.slice ao (Lib.byteCells l).length cap) := by rw [Lib.cell_of_heap hbk]; rfl
  go_wp2_with fail
  refine (Try.utf8_AppendRune_row B _ (Lib.byteCells l).length (Lib.byteCells l) r hr0 hr1 _ hown (by rw [HL.out]; exact hlen) (by have := hb1.size; omega)).mono ?_
  rintro e w2 ⟨v', rfl, hown', o, hgrow⟩
  have hlt : B < w1.heap.size := by have := hb1.size; have := h.lt; omega
  have hb2 : w2.heap[B]? = some (.cells #[.pointer (some ⟨B, 0, none⟩), .slice ao (Lib.byteCells l).length cap] 66 (0, 0)) := by
    rw [hgrow.block B (by simp; omega) (fun e => hne e.symm), Lib.alloc_old w1 _ B hlt]
    exact hbk
  have d0 : w2.cell? ⟨B, 0, none⟩ = some (.pointer (some ⟨B, 0, none⟩)) := by rw [Lib.cell_of_heap hb2]; rfl
  have d1 : w2.cell? ⟨B, 1, none⟩ = some (.slice ao (Lib.byteCells l).length cap) := by rw [Lib.cell_of_heap hb2]; rfl
  have f1 : w2.frozen? ⟨B, 1, none⟩ = false := Lib.frozen_of_heap hb2 1
  obtain ⟨g, cap', rfl⟩ : ∃ g cap', v' = .slice (some ⟨g, 0, none⟩) ((Lib.byteCells l).length + (Lib.runeCells r).length) cap' := by
    rcases hown'.2 with ⟨_, h0⟩ | ⟨g, cap', cur, fz, hv, _⟩
    · omega
    · exact ⟨g, cap', hv⟩
  go_wp2
  go_ret2
  refine ⟨?_, Or.inr ?_, ?_⟩
  · have e : (((Lib.byteCells l).length : Int) + ((Lib.runeCells r).length : Int) - ((Lib.byteCells l).length : Int)) = ((Lib.runeCells r).length : Int) := by omega
    simp [e]
  · rw [Lib.byteCells_append, Lib.byteCells_encodeRune]
    exact Lib.BuilderAtF.put (T := 66) (e := 5) hB hb2 (bs' := Lib.byteCells l ++ Lib.runeCells r) (by simpa using hown') (by decide)
  · exact ((hb1.alloc (by have := hb1.size; omega) _).grown hgrow (by have := hb1.size; simp; omega) (fun k hk => (hown.lt k hk).1)).setCell (p := ⟨B, 1, none⟩) hB _

theorem bldString (B : Nat) (l : List UInt8) (w : World) (h : Bd B l w) :
    Calls Try.prog 39 #[.pointer (some ⟨B, 0, none⟩)] w fun e w' => e = .returned (.string ⟨l.toArray⟩) ∧ Below B w w' := by
  refine (Try.Builder_String_any_k B B l w h (Nat.le_of_lt h.lt)).mono ?_
  rintro e w' ⟨rfl, _, hb, _⟩
  exact ⟨rfl, hb⟩
end Go.Proofs.Qxb6615727a
