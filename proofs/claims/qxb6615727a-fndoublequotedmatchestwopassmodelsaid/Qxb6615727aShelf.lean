/-
  Seat b6615727a: two contracts of the guide's shelf (strings.Builder's String, utf8.AppendRune) at this program's numbers, written by the shelf's own tool in plain words.
-/
import Derived.Shelf.Strings.BuilderK
import Derived.Shelf.Utf8.AppendRune
import Derived.Test.Qxb6615727aProg
namespace Go.Proofs
open Go.Shelf
def Try.lays169_ren : Go.Shelf.Ren := ⟨fun | 169 => 39 | n => n, fun | 70 => 64 | 9 => 9 | 0 => 0 | 72 => 66 | 37 => 58 | 127 => 77 | 3 => 3 | 5 => 5 | n => n, fun | n => n⟩
theorem Try.lays169 : Go.Proofs.Lays.n169 Try.prog Try.lays169_ren := {
  mixed := by kernel_rfl
  f169 := Try.func39.trans (congrArg some (by kernel_rfl))
  t0 := Try.underlying0
  a0 := Try.isAgg0
  z0 := Try.sizeOf0
  v0 := Try.zeroValue0
  t3 := Try.underlying3
  a3 := Try.isAgg3
  z3 := Try.sizeOf3
  v3 := Try.zeroValue3
  t9 := Try.underlying9
  a9 := Try.isAgg9
  z9 := Try.sizeOf9
  v9 := Try.zeroValue9
  t37 := Try.underlying58
  a37 := Try.isAgg58
  z37 := Try.sizeOf58
  v37 := Try.zeroValue58
  t70 := Try.underlying64
  a70 := Try.isAgg64
  z70 := Try.sizeOf64
  v70 := Try.zeroValue64
  t72 := Try.underlying66
  a72 := Try.isAgg66
  z72 := Try.sizeOf66
  v72 := Try.zeroValue66
  t127 := Try.underlying77
  a127 := Try.isAgg77
  z127 := Try.sizeOf77
  v127 := Try.zeroValue77 }
theorem Try.Builder_Extra_169 : Builder.Extra Try.prog Try.lays169_ren := {
  sizeBuilder := by kernel_rfl
  liesBuilder := by kernel_rfl
  t5 := Try.underlying5
  a5 := Try.isAgg5
  z5 := Try.sizeOf5
  v5 := Try.zeroValue5
  infoByte := by kernel_rfl
  cellsByte := by kernel_rfl
  sizeByte := by kernel_rfl
  neB5 := by decide }
open Go.RowKit in
theorem Try.Builder_String_any_k (B b : Nat) (l : List UInt8) (w : World) (h : Lib.IsBuilderF 66 5 B b (Lib.byteCells l) w) (hBw : B ≤ w.heap.size) :
    Calls Try.prog 39 #[.pointer (some ⟨b, 0, none⟩)] w fun e w' => e = .returned (.string ⟨l.toArray⟩) ∧ (Lib.IsBuilderF 66 5 B b (Lib.byteCells l) w' ∧ Below B w w' ∧ Lib.OthersKept 5 (some b) w w') := Any.Builder_String_any_k Try.lays169 Try.Builder_Extra_169 B b l w h hBw
def Try.lays278_ren : Go.Shelf.Ren := ⟨fun | 278 => 49 | n => n, fun | 37 => 58 | 21 => 21 | 51 => 81 | 4 => 4 | 46 => 62 | 5 => 5 | n => n, fun | n => n⟩
theorem Try.lays278 : Go.Proofs.Lays.n278 Try.prog Try.lays278_ren := {
  mixed := by kernel_rfl
  f278 := Try.func49.trans (congrArg some (by kernel_rfl))
  t4 := Try.underlying4
  a4 := Try.isAgg4
  z4 := Try.sizeOf4
  v4 := Try.zeroValue4
  t5 := Try.underlying5
  a5 := Try.isAgg5
  z5 := Try.sizeOf5
  v5 := Try.zeroValue5
  t21 := Try.underlying21
  a21 := Try.isAgg21
  z21 := Try.sizeOf21
  v21 := Try.zeroValue21
  t37 := Try.underlying58
  a37 := Try.isAgg58
  z37 := Try.sizeOf58
  v37 := Try.zeroValue58
  t46 := Try.underlying62
  a46 := Try.isAgg62
  z46 := Try.sizeOf62
  v46 := Try.zeroValue62
  t51 := Try.underlying81
  a51 := Try.isAgg81
  z51 := Try.sizeOf81
  v51 := Try.zeroValue81 }
def Try.lays242_ren : Go.Shelf.Ren := ⟨fun | 242 => 47 | 278 => 49 | n => n, fun | 37 => 58 | 21 => 21 | 51 => 81 | 4 => 4 | 5 => 5 | 46 => 62 | n => n, fun | n => n⟩
theorem Try.lays242 : Go.Proofs.Lays.n242 Try.prog Try.lays242_ren := {
  mixed := by kernel_rfl
  f242 := Try.func47.trans (congrArg some (by kernel_rfl))
  f278 := Try.func49.trans (congrArg some (by kernel_rfl))
  t4 := Try.underlying4
  a4 := Try.isAgg4
  z4 := Try.sizeOf4
  v4 := Try.zeroValue4
  t5 := Try.underlying5
  a5 := Try.isAgg5
  z5 := Try.sizeOf5
  v5 := Try.zeroValue5
  t21 := Try.underlying21
  a21 := Try.isAgg21
  z21 := Try.sizeOf21
  v21 := Try.zeroValue21
  t37 := Try.underlying58
  a37 := Try.isAgg58
  z37 := Try.sizeOf58
  v37 := Try.zeroValue58
  t46 := Try.underlying62
  a46 := Try.isAgg62
  z46 := Try.sizeOf62
  v46 := Try.zeroValue62
  t51 := Try.underlying81
  a51 := Try.isAgg81
  z51 := Try.sizeOf81
  v51 := Try.zeroValue81 }
open Go.RowKit in
theorem Try.utf8_AppendRune_row (B : Nat) (v : Value) (n : Nat) (xs : List Value) (r : Int) (hr0 : -2147483648 ≤ r) (hr1 : r ≤ 2147483647) (w : World) (hown : w.ownsRowF B 5 1 v n xs) (hlen : n + 4 ≤ 140737488355328) (hBw : B ≤ w.heap.size) :
    Calls Try.prog 47 #[v, .int .i32 r] w fun e w' => ∃ v', e = .returned v' ∧ w'.ownsRowF B 5 1 v' (n + (Lib.runeCells r).length) (xs ++ Lib.runeCells r) ∧ ∃ o, (w.alloc o).grownBy w' v.ownBlock := Any.utf8_AppendRune_row Try.lays242 (by kernel_rfl) B v n xs r hr0 hr1 w hown hlen hBw
end Go.Proofs
