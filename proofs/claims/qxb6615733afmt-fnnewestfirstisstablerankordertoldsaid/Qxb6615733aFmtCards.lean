/-
  DERIVED. GIVEN WITH THE SEED: THE CARDS: each row of Qxb6615733aFmtRows.lean that lists a variable, with what it lists TIED to the program's text (the seventh form; the later family's looks); each row that meets fmt, with fmt's text TOLD by the authors' own Lean function (tested against real Go, not proved from fmt's source: count such statements apart). THE CARD IS WHAT COUNTS. Prove the row's statement (the work); the ties are given (Qxb6615733aFmtTie.lean); close each card by the builder's one call (the guide's Derived/Test/ToyasCard.lean, 'card_holds'). Laid BY PROGRAM, IN A SANDBOX (cutbox-door.mjs). By AI agents, Wed Nov 11 2026. No macro, syntax, notation, axiom, sorry.
-/
import Derived.Test.Qxb6615733aFmtRows
import GoSem.ClaimSeven
namespace Go.Proofs.Qxb6615733aFmt
namespace Rows

/-- THE TOLD CARD OF 'zzlaws_pkg_api_b1.FnNewestFirstIsStableRankOrder'. -/
def fnNewestFirstIsStableRankOrderCard : Claim7 := { stood := { row := fnNewestFirstIsStableRankOrderRow, standIns := [], harness := (true, "65d503f3aed5992957a25d83d4d0e3a47e8101f024725ce7936305239bb48302"), looks := false }, told := true, goes := false }
def FnNewestFirstIsStableRankOrderToldSaid : Prop := Claim7.holds Tryf.pinned (.plain (OpenSpec.ofChange fnNewestFirstIsStableRankOrderSpec)) fnNewestFirstIsStableRankOrderCard
/-- ITS FALSE NEIGHBOUR. Refute it at one input. -/
def FnNewestFirstIsStableRankOrderToldWrongFalsely : Prop := Claim7.holds Tryf.pinned (.plain (OpenSpec.ofChange fnNewestFirstIsStableRankOrderWrong)) fnNewestFirstIsStableRankOrderCard
end Rows
end Go.Proofs.Qxb6615733aFmt
