/-
  Seat b6615727a: the callees of the law on a document's start.
-/
import Derived.Test.Qxb6615727aPlainB
import Derived.Test.Qxb6615727aWalkA
import Derived.Deep.QuietTactic
import Derived.BigQuiet
namespace Go.Proofs.Qxb6615727a
open Go.RowKit

set_option maxHeartbeats 1000000 in
theorem bytesDoc (s : ByteArray) (a b c : Int) (w : World) (hs : s.size ≤ maxLen) :
    Calls Try.prog 17 #[.string s, .int .i64 a, .int .i64 b, .int .i64 c] w (Told ((s.size : Int) ≤ 1048576) w) := by
  unfold maxLen at hs
  by_cases c1 : (1048576 : Int) < (s.size : Int)
  · go_enter Try.func17, Try.ntmps17
    go_wp2
    go_ret
    exact told_no
  · go_enter Try.func17, Try.ntmps17
    go_wp2
    go_ret
    exact told_yes (by first | trivial | omega)

set_option maxHeartbeats 1000000 in
theorem blankOrComment_any (s : ByteArray) (w : World) (hs : s.size ≤ maxLen) :
    Calls Try.prog 19 #[.string s] w fun e w' => e = .returned (.bool (spaced s.data.toList)) ∧ w = w' := by
  unfold maxLen at hs
  rw [← seg_all s]
  go_enter Try.func19, Try.ntmps19
  go_wp2
  go_loop [3] (fun i => Sk s 0 s.size i) (fun i => s.size - (intOf i).toNat)
  case atStart => exact Sk.mk 0 _ (Nat.le_refl _) (by omega) rfl rfl
  case round =>
    obtain ⟨k, hk1, hk2, rfl, hp⟩ := hrel
    have H : Hid (past (seg s 0 s.size) = past (seg s k s.size)) := hp
    clear hp
    by_cases hlt : k < s.size
    · have hkn : ((k : Int) == (s.size : Int)) = false := by simp; omega
      go_wp2
      · go_round
        case rel => exact Sk.mk (k + 1) _ (by omega) (by omega) (by omega) (H.out.trans (past_step s k s.size hlt (Nat.le_refl _) hlt ‹_›))
        case measure => simp [intOf]; omega
      · go_ret
        exact ⟨ret_bool (by rw [spaced_stop s 0 k s.size hlt (Nat.le_refl _) hlt ‹_› H.out]), rfl⟩
    · have : k = s.size := by omega
      subst this
      go_wp2
      go_ret
      exact ⟨ret_bool (spaced_end s 0 s.size H.out).symm, rfl⟩

/-- What documentStart leaves: the reading place behind the marker. -/
def DocPost (b : Nat) (r : Bool) (l : Nat) (w : World) (e : Ending) (w' : World) : Prop := e = .returned (.bool r) ∧ ∃ nq, (w.drewN nq).setCell ⟨b, 4, none⟩ (.int .i64 ((l : Int) + 3)) = w'

set_option maxHeartbeats 1000000 in
theorem docStart_any (b : Nat) (s : ByteArray) (l n : Nat) (a : Int) (w : World) (hs : s.size ≤ maxLen) (h0 : w.cell? ⟨b, 0, none⟩ = some (.string s)) (h1 : w.cell? ⟨b, 1, none⟩ = some (.int .i64 l))
    (h2 : w.cell? ⟨b, 2, none⟩ = some (.int .i64 n)) (h4 : w.cell? ⟨b, 4, none⟩ = some (.int .i64 a)) (hf : w.frozen? ⟨b, 4, none⟩ = false) (hl : l + 3 ≤ n) (hn : n ≤ s.size)
    (hm : ((s[l].toNat : Int) != 45) = false) :
    Calls Try.prog 32 #[.pointer (some ⟨b, 0, none⟩)] w (DocPost b (blank (seg s (l + 3) n)) l w) := by
  have hs' := hs
  unfold maxLen at hs'
  have hl1 : (l : Int) < (s.size : Int) := by omega
  go_enter Try.func32, Try.ntmps32
  go_wp2_with fail
  go_quiet (fail)
  go_wp2_with fail
  refine (restBlank_any b s n (l + 3) _ hs ?_ ?_ ?_ (by omega) hn).mono ?_
  · exact (World.cell?_setCell_other (w.drewN nq) ⟨b, 4, none⟩ ⟨b, 0, none⟩ _ (by simp)).trans h0
  · exact (World.cell?_setCell_other (w.drewN nq) ⟨b, 4, none⟩ ⟨b, 2, none⟩ _ (by simp)).trans h2
  · exact World.cell?_setCell_same' (w.drewN nq) ⟨b, 4, none⟩ _ (by simp [h4])
  rintro e w' ⟨rfl, rfl⟩
  go_wp2
  go_ret
  exact ⟨rfl, _, rfl⟩

set_option maxHeartbeats 1000000 in
theorem zzDoc_psr (b : Nat) (s : ByteArray) (z y a : Int) (l n : Nat) (W : World) (hb : b = W.heap.size) (hz : z = (n : Int)) (hy : y = (l : Int)) (hs : s.size ≤ maxLen) (hl : l + 3 ≤ n) (hn : n ≤ s.size)
    (hm : ((s[l].toNat : Int) != 45) = false) :
    Calls Try.prog 18 #[.pointer (some ⟨b, 0, none⟩)] (W.alloc (psr s y z a false)) (DocPost b (blank (seg s (l + 3) n)) l (W.alloc (psr s y z a false))) := by
  subst hb hz hy
  obtain ⟨p0, p1, p2, p4, p25⟩ := psr_cells s l n a false W
  have hf : (W.alloc (psr s l n a false)).frozen? ⟨W.heap.size, 4, none⟩ = false := by unfold psr; simp [go_sem]
  go_enter Try.func18, Try.ntmps18
  go_wp2_with fail
  refine (docStart_any W.heap.size s l n a _ hs p0 p1 p2 p4 hf hl hn hm).mono ?_
  rintro e w' ⟨rfl, nq, rfl⟩
  go_wp2
  go_ret
  exact ⟨rfl, nq, rfl⟩
end Go.Proofs.Qxb6615727a
