/-
  Seat b6615733aF: why a copy failed: fmt.Sprintf over its calling stop.
-/
import Derived.Test.Qxb6615733aFmtFmtF
import Derived.Test.Qxb6615733aFmtWalkG
namespace Go.Proofs.Qxb6615733aFmt
open Go.RowKit
open Go.Extern.Stop Go.Stop Go.Extern

set_option maxHeartbeats 2000000 in
set_option maxRecDepth 100000 in
theorem error_any (b : Nat) (w : World) (h : ErrAt w b) : Calls Tryf.prog 57 #[.pointer (some ⟨b, 0, none⟩)] w fun e w' => e = .returned (.string errText) ∧ w = w' := by
  have c1 := (blk_cell (i := 1) h rfl).1
  unfold errText at c1 ⊢
  go_enter Tryf.func57, Tryf.ntmps57
  go_wp2
  go_ret
  exact ⟨rfl, rfl⟩

def FailText (w : World) (e : Ending) (w' : World) : Prop := ∃ s, e = .returned (.string s) ∧ Below w.heap.size w w'

set_option maxHeartbeats 8000000 in
set_option maxRecDepth 100000 in
theorem copyFailure_any (F : Interp) (id addr : ByteArray) (b : Nat) (w : World) (hF : F.answers w.tape) (h : ErrAt w b) : Calls Tryf.prog 11 #[.agg #[.string id, .string addr], .iface 73 (.pointer (some ⟨b, 0, none⟩))] w (FailText w) := by
  have hF' := answers_open hF
  have K : ∀ o1 o2 : Obj, Below w.heap.size w ((w.alloc o1).alloc o2) := fun o1 o2 => ((Below.refl _ w).alloc (Nat.le_refl _) o1).alloc (by simp) o2
  have HK : Hid _ := K
  clear K
  go_enter Tryf.func11, Tryf.ntmps11
  go_wp2
  apply rows_call nextTurns
  case hr => go_simp; exact ⟨⟨rfl, rfl, rfl⟩, rfl⟩
  case hi => exact invokeError73 _ _
  case hc =>
    refine (error_any b _ ?_).mono ?_
    · exact Kp.below (HK.out _ _) b _ 75 (by decide) h
    rintro e w3 ⟨rfl, rfl⟩
    apply rows_value nextReturned
    case hr => go_simp; exact ⟨rfl, rfl⟩
    case h =>
      go_wp2
      go_ret
      exact ⟨_, rfl, (HK.out _ _).drew⟩
end Go.Proofs.Qxb6615733aFmt
