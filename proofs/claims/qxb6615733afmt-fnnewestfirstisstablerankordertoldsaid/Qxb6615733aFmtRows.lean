/-
  No cell of these rows narrows 'for every input' (looked for: loops, veiled, ifaces, maps, wideKeys, modest, calm, conditions, laid).
  DERIVED. THE GIVEN ROWS OF THIS SEAT. 1 by the template 'for every input the law returns true; each argument reads behind the call as it read before'; 0 by the template 'total and deterministic' (their statements: Qxb6615733aFmtTotals.lean).
  GIVEN WITH THE SEED: the statements are not yours to turn. If you find one false, say at which input.
  Laid BY PROGRAM, IN A SANDBOX (cutbox-rows.mjs): the forced cells as the released guide's own fill.sh prints them over the translation 8eec38302715e79d… (all of the seat's roots in one cut). By AI agents, Wed Nov 11 2026. No macro, syntax, notation, axiom, sorry.
-/
import Derived.Test.Qxb6615733aFmtChecked
import GoSem.Claim
import GoSem.ClaimJoined
import GoSem.ClaimMapViews
import Derived.JoinedTies
import Derived.KernelRfl
namespace Go.Proofs.Qxb6615733aFmt
/- THE CELL 'sum', in the pinned program and in every row, IS THE sha256 OF THE DUMP (.gsa) THAT Qxb6615733aFmtProg.lean LOADS. Nothing in Lean hashes anything: it is a label: what it is worth is what the hold of that sum in a sandbox is worth. -/
noncomputable def Tryf.pinned : Pinned := { name := "qxb6615733afmt", sum := "8eec38302715e79da8dce6e138fe028ad6a253140b7ed7d580fcb3da12e033bd", checked := Tryf.checked }
namespace Rows
def none {H : Type} : Left H := { results := [], args := [] }

/-- 'zzlaws_pkg_api_b1.FnNewestFirstIsStableRankOrder': WHATEVER THE INPUT: true; the input reads as it did. -/
def fnNewestFirstIsStableRankOrderSpec : ChangeSpec := { name := "fnNewestFirstIsStableRankOrder", fn := fun _ => fun
  | [d] => { results := [.lit (.bool true)], args := [d] }
  | _ => none }
def fnNewestFirstIsStableRankOrderRow : OpenClaim := { program := "qxb6615733afmt", sum := "8eec38302715e79da8dce6e138fe028ad6a253140b7ed7d580fcb3da12e033bd", func := "example.com/quorumwarden/quorumwarden/zzlaws_pkg_api_b1.FnNewestFirstIsStableRankOrder", spec := "fnNewestFirstIsStableRankOrder", stops := ["fmt.Sprintf, its operands' methods called"], inPlace := ["fmt.Sprintf", "internal/reflectlite.ValueOf", "internal/reflectlite.Swapper", "(internal/reflectlite.Value).Len"], unfollowed := true, recurses := true, apart := false }
/-- NO THEOREM (fmt's text is open here; it may be false): for the released tool's asking of the row's closed facts alone. THE STATEMENT IS 'FnNewestFirstIsStableRankOrderToldSaid' (Qxb6615733aFmtCards.lean). -/
def FnNewestFirstIsStableRankOrderFormAsk : Prop := fnNewestFirstIsStableRankOrderRow.holds Tryf.pinned (OpenSpec.ofChange fnNewestFirstIsStableRankOrderSpec)

/-- ITS FALSE NEIGHBOUR: 'it returns false'. Refute it at one input. -/
def fnNewestFirstIsStableRankOrderWrong : ChangeSpec := { name := "fnNewestFirstIsStableRankOrder", fn := fun _ => fun
  | [d] => { results := [.lit (.bool false)], args := [d] }
  | _ => none }
def FnNewestFirstIsStableRankOrderWrongFormAsk : Prop := fnNewestFirstIsStableRankOrderRow.holds Tryf.pinned (OpenSpec.ofChange fnNewestFirstIsStableRankOrderWrong)

end Rows
end Go.Proofs.Qxb6615733aFmt
