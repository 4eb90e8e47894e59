/-
  No cell of these rows narrows 'for every input' (looked for: loops, veiled, ifaces, maps, wideKeys, modest, calm, conditions, laid).
  DERIVED. THE GIVEN ROWS OF THIS SEAT. 2 by the template 'for every input the law returns true; each argument reads behind the call as it read before'; 0 by the template 'total and deterministic' (their statements: Qxb6615783aTotals.lean).
  GIVEN WITH THE SEED: the statements are not yours to turn. If you find one false, say at which input.
  Laid BY PROGRAM, IN A SANDBOX (cutbox-rows.mjs): the forced cells as the released guide's own fill.sh prints them over the translation 2378a18d70b15840… (all of the seat's roots in one cut). By AI agents, Wed Nov 11 2026. No macro, syntax, notation, axiom, sorry.
-/
import Derived.Test.Qxb6615783aChecked
import GoSem.Claim
import GoSem.ClaimJoined
import GoSem.ClaimMapViews
import Derived.JoinedTies
import Derived.KernelRfl
namespace Go.Proofs.Qxb6615783a
/- THE CELL 'sum', in the pinned program and in every row, IS THE sha256 OF THE DUMP (.gsa) THAT Qxb6615783aProg.lean LOADS. Nothing in Lean hashes anything: it is a label: what it is worth is what the hold of that sum in a sandbox is worth. -/
noncomputable def Try.pinned : Pinned := { name := "qxb6615783a", sum := "2378a18d70b158404c0bd2923adbb4693a4963b8fde31b7169f41977414e7cba", checked := Try.checked }
namespace Rows
def none {H : Type} : Left H := { results := [], args := [] }

/-- 'zzlaws_root_b1.FnApplyComposesAndSets': WHATEVER THE INPUT: true; the input reads as it did. -/
def fnApplyComposesAndSetsSpec : ChangeSpec := { name := "fnApplyComposesAndSets", fn := fun _ => fun
  | [d1, d2, d3] => { results := [.lit (.bool true)], args := [d1, d2, d3] }
  | _ => none }
def fnApplyComposesAndSetsRow : OpenClaim := { program := "qxb6615783a", sum := "2378a18d70b158404c0bd2923adbb4693a4963b8fde31b7169f41977414e7cba", func := "example.com/tincture/tincture/zzlaws_root_b1.FnApplyComposesAndSets", spec := "fnApplyComposesAndSets", apart := false }
def FnApplyComposesAndSetsSaid : Prop := fnApplyComposesAndSetsRow.holds Try.pinned (OpenSpec.ofChange fnApplyComposesAndSetsSpec)

/-- ITS FALSE NEIGHBOUR: 'it returns false'. Refute it at one input. -/
def fnApplyComposesAndSetsWrong : ChangeSpec := { name := "fnApplyComposesAndSets", fn := fun _ => fun
  | [d1, d2, d3] => { results := [.lit (.bool false)], args := [d1, d2, d3] }
  | _ => none }
def FnApplyComposesAndSetsWrongFalsely : Prop := fnApplyComposesAndSetsRow.holds Try.pinned (OpenSpec.ofChange fnApplyComposesAndSetsWrong)

/-- 'zzlaws_root_b1.FnApplyEmptyForgetsAndSettles': WHATEVER THE INPUT: true; the input reads as it did. -/
def fnApplyEmptyForgetsAndSettlesSpec : ChangeSpec := { name := "fnApplyEmptyForgetsAndSettles", fn := fun _ => fun
  | [d1, d2, d3] => { results := [.lit (.bool true)], args := [d1, d2, d3] }
  | _ => none }
def fnApplyEmptyForgetsAndSettlesRow : OpenClaim := { program := "qxb6615783a", sum := "2378a18d70b158404c0bd2923adbb4693a4963b8fde31b7169f41977414e7cba", func := "example.com/tincture/tincture/zzlaws_root_b1.FnApplyEmptyForgetsAndSettles", spec := "fnApplyEmptyForgetsAndSettles", apart := false }
def FnApplyEmptyForgetsAndSettlesSaid : Prop := fnApplyEmptyForgetsAndSettlesRow.holds Try.pinned (OpenSpec.ofChange fnApplyEmptyForgetsAndSettlesSpec)

/-- ITS FALSE NEIGHBOUR: 'it returns false'. Refute it at one input. -/
def fnApplyEmptyForgetsAndSettlesWrong : ChangeSpec := { name := "fnApplyEmptyForgetsAndSettles", fn := fun _ => fun
  | [d1, d2, d3] => { results := [.lit (.bool false)], args := [d1, d2, d3] }
  | _ => none }
def FnApplyEmptyForgetsAndSettlesWrongFalsely : Prop := fnApplyEmptyForgetsAndSettlesRow.holds Try.pinned (OpenSpec.ofChange fnApplyEmptyForgetsAndSettlesWrong)

end Rows
end Go.Proofs.Qxb6615783a
