/-
  Seat b6615727a: further callees: the sizes' test of the second law, hasNewline, onlySpaces.
-/
import Derived.Test.Qxb6615727aPlainB
import Derived.Test.Qxb6615727aWalkA
namespace Go.Proofs.Qxb6615727a
open Go.RowKit

set_option maxHeartbeats 1000000 in
theorem bytes4x (s x : ByteArray) (a b c : Int) (w : World) (hs : s.size ≤ maxLen) (hx : x.size ≤ maxLen) :
    Calls Try.prog 14 #[.string s, .int .i64 a, .int .i64 b, .int .i64 c, .string x] w (Told ((s.size : Int) + (x.size : Int) ≤ 1048576) w) := by
  unfold maxLen at hs hx
  by_cases c1 : (1048576 : Int) < (s.size : Int)
  · go_enter Try.func14, Try.ntmps14
    go_wp2
    go_ret
    exact told_no
  by_cases c2 : (1048576 : Int) < (x.size : Int)
  · go_enter Try.func14, Try.ntmps14
    go_wp2
    go_ret
    exact told_no
  by_cases c3 : (1048576 : Int) < (s.size : Int) + (x.size : Int)
  · go_enter Try.func14, Try.ntmps14
    go_wp2
    go_ret
    exact told_no
  · go_enter Try.func14, Try.ntmps14
    go_wp2
    go_ret
    exact told_yes (by first | trivial | omega)

set_option maxHeartbeats 1000000 in
theorem hasNewline_any (s : ByteArray) (w : World) (hs : s.size ≤ maxLen) :
    Calls Try.prog 15 #[.string s] w (Told True w) := by
  unfold maxLen at hs
  go_enter Try.func15, Try.ntmps15
  go_wp2
  go_loop [3] (fun i => Rg 0 s.size i) (fun i => s.size - (intOf i).toNat)
  case atStart => exact Rg.mk 0 _ (Nat.le_refl _) (by omega) rfl
  case round =>
    obtain ⟨k, hk1, hk2, rfl⟩ := hrel
    by_cases hlt : k < s.size
    · go_wp2
      · go_ret
        exact told_yes trivial
      · go_round
        case rel => exact Rg.mk (k + 1) _ (by omega) (by omega) (by omega)
        case measure => simp [intOf]; omega
    · go_wp2
      go_ret
      exact told_no

/-- A counter that has passed spaces alone, as 'onlySpaces' counts. -/
def OnlySp (s : ByteArray) (v : Value) : Prop := ∃ k : Nat, k ≤ s.size ∧ v = .int .i64 k ∧ spaces (seg s 0 s.size) = spaces (seg s k s.size)
theorem OnlySp.mk {s : ByteArray} (k : Nat) (z : Int) (h2 : k ≤ s.size) (h3 : z = (k : Int)) (h4 : spaces (seg s 0 s.size) = spaces (seg s k s.size)) : OnlySp s (.int .i64 z) := ⟨k, h2, by rw [h3], h4⟩

set_option maxHeartbeats 1000000 in
theorem onlySpaces_any (s : ByteArray) (w : World) (hs : s.size ≤ maxLen) :
    Calls Try.prog 16 #[.string s] w fun e w' => e = .returned (.bool (spaces s.data.toList)) ∧ w = w' := by
  unfold maxLen at hs
  rw [← seg_all s]
  go_enter Try.func16, Try.ntmps16
  go_wp2
  go_loop [3] (fun i => OnlySp s i) (fun i => s.size - (intOf i).toNat)
  case atStart => exact OnlySp.mk 0 _ (by omega) rfl rfl
  case round =>
    obtain ⟨k, hk2, rfl, hp⟩ := hrel
    have H : Hid (spaces (seg s 0 s.size) = spaces (seg s k s.size)) := hp
    clear hp
    by_cases hlt : k < s.size
    · go_wp2
      · go_ret
        exact ⟨ret_bool (by rw [H.out, spaces_stop s k s.size hlt (Nat.le_refl _) hlt ‹_›]), rfl⟩
      · go_round
        case rel => exact OnlySp.mk (k + 1) _ (by omega) (by omega) (H.out.trans (spaces_step s k s.size hlt (Nat.le_refl _) hlt ‹_›))
        case measure => simp [intOf]; omega
    · have : k = s.size := by omega
      subst this
      go_wp2
      go_ret
      exact ⟨ret_bool (by rw [H.out, spaces_end]), rfl⟩
end Go.Proofs.Qxb6615727a
