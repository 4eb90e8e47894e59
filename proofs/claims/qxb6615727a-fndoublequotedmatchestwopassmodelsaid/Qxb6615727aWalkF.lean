/-
  Seat b6615727a: ZZdoubleQuoted of a parser that was just laid; ZZescaped.
-/
import Derived.Test.Qxb6615727aWalkD
import Derived.Test.Qxb6615727aWalkE
namespace Go.Proofs.Qxb6615727a
open Go.RowKit

set_option maxHeartbeats 1000000 in
theorem zzDq_psr (b : Nat) (s : ByteArray) (line z at_ : Int) (m : Bool) (n a : Nat) (W : World) (hb : b = W.heap.size) (hz : z = (n : Int)) (hs : s.size ≤ maxLen) (hsz : (s.size : Int) ≤ 1048576) (ha : a < n) (hn : n ≤ s.size) :
    Calls Try.prog 27 #[.pointer (some ⟨b, 0, none⟩), .int .i64 a] (W.alloc (psr s line z at_ m)) (DqPost b (rdr (seg s (a + 1) n) [] m (a + 1)) (W.alloc (psr s line z at_ m))) := by
  subst hb hz
  obtain ⟨p0, p1, p2, p4, p25⟩ := psr_cells s line n at_ m W
  have hf : (W.alloc (psr s line n at_ m)).frozen? ⟨W.heap.size, 25, none⟩ = false := by unfold psr; simp [go_sem]
  have hlt : W.heap.size < (W.alloc (psr s line n at_ m)).heap.size := by simp
  have key := dq_any W.heap.size s n a m _ hs hsz hlt p0 p2 p25 hf ha hn
  generalize rdr (seg s (a + 1) n) [] m (a + 1) = R at key ⊢
  obtain ⟨o, m2⟩ := R
  have Key : Hid _ := key
  clear key p0 p1 p2 p4 p25 hf hlt
  go_enter Try.func27, Try.ntmps27
  go_wp2_with fail
  refine Calls.mono Key.out ?_
  rintro e w' ⟨rfl, hc, hbl⟩
  clear Key
  cases o with
  | none =>
    unfold dqVal
    go_wp2
    go_ret3
    exact ⟨rfl, hc, hbl⟩
  | some x =>
    obtain ⟨v, off⟩ := x
    unfold dqVal
    go_wp2
    go_ret3
    exact ⟨rfl, hc, hbl⟩

set_option maxHeartbeats 1000000 in
theorem zzEscaped_any (b : Nat) (m : Bool) (w : World) (h : w.cell? ⟨b, 25, none⟩ = some (.bool m)) :
    Calls Try.prog 28 #[.pointer (some ⟨b, 0, none⟩)] w fun e w' => e = .returned (.bool m) ∧ w = w' := by
  go_enter Try.func28, Try.ntmps28
  go_wp2
  go_ret
  exact ⟨rfl, rfl⟩
end Go.Proofs.Qxb6615727a
