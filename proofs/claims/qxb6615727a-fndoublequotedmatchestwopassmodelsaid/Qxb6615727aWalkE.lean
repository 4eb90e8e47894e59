/-
  Seat b6615727a: further callees of the laws on doubleQuoted.
-/
import Derived.Test.Qxb6615727aWalkA
namespace Go.Proofs.Qxb6615727a
open Go.RowKit

set_option maxHeartbeats 1000000 in
theorem bytesR (s : ByteArray) (a b : Int) (c : Value) (w : World) (hs : s.size ≤ maxLen) :
    Calls Try.prog 30 #[.string s, .int .i64 a, .int .i64 b, c] w (Told ((s.size : Int) ≤ 1048576) w) := by
  unfold maxLen at hs
  by_cases c1 : (1048576 : Int) < (s.size : Int)
  · go_enter Try.func30, Try.ntmps30
    go_wp2
    go_ret
    exact told_no
  · go_enter Try.func30, Try.ntmps30
    go_wp2
    go_ret
    exact told_yes (by first | trivial | omega)

set_option maxHeartbeats 1000000 in
theorem bytesM (s : ByteArray) (a b : Int) (c : Value) (w : World) (hs : s.size ≤ maxLen) :
    Calls Try.prog 24 #[.string s, .int .i64 a, .int .i64 b, c] w (Told ((s.size : Int) ≤ 1048576) w) := by
  unfold maxLen at hs
  by_cases c1 : (1048576 : Int) < (s.size : Int)
  · go_enter Try.func24, Try.ntmps24
    go_wp2
    go_ret
    exact told_no
  · go_enter Try.func24, Try.ntmps24
    go_wp2
    go_ret
    exact told_yes (by first | trivial | omega)

set_option maxHeartbeats 1000000 in
/-- 'dqLineOK': whatever it answers, the world stands; where it answers true the bounds hold. -/
theorem dqLineOK_any (s : ByteArray) (eol start : Int) (w : World) (hs : s.size ≤ maxLen) :
    Calls Try.prog 25 #[.string s, .int .i64 eol, .int .i64 start] w (Told (0 ≤ start ∧ start < eol ∧ eol ≤ (s.size : Int)) w) := by
  unfold maxLen at hs
  by_cases c1 : start < 0
  · go_enter Try.func25, Try.ntmps25
    go_wp2
    go_ret
    exact told_no
  by_cases c2 : eol ≤ start
  · go_enter Try.func25, Try.ntmps25
    go_wp2
    go_ret
    exact told_no
  by_cases c3 : (s.size : Int) < eol
  · go_enter Try.func25, Try.ntmps25
    go_wp2
    go_ret
    exact told_no
  obtain ⟨a, rfl⟩ := Int.eq_ofNat_of_zero_le (show 0 ≤ start by omega)
  obtain ⟨n, rfl⟩ := Int.eq_ofNat_of_zero_le (show 0 ≤ eol by omega)
  have ha : a < s.size := by omega
  by_cases e3 : ((s[a].toNat : Int) != 34) = true
  · go_enter Try.func25, Try.ntmps25
    go_wp2
    go_ret
    exact told_no
  have e3' : ((s[a].toNat : Int) != 34) = false := by simpa using e3
  clear e3
  by_cases c4 : n < s.size
  · by_cases e4 : ((s[n].toNat : Int) != 10) = true
    · go_enter Try.func25, Try.ntmps25
      go_wp2
      go_ret
      exact told_no
    · have e4' : ((s[n].toNat : Int) != 10) = false := by simpa using e4
      clear e4
      go_enter Try.func25, Try.ntmps25
      go_wp2
      go_loop [7] (fun i => Rg a n i) (fun i => n - (intOf i).toNat)
      case atStart => exact Rg.mk a _ (Nat.le_refl _) (by omega) rfl
      case round =>
        obtain ⟨k, hk1, hk2, rfl⟩ := hrel
        by_cases hlt : k < n
        · go_wp2
          · go_ret
            exact told_no
          · go_round
            case rel => exact Rg.mk (k + 1) _ (by omega) (by omega) (by omega)
            case measure => simp [intOf]; omega
        · go_wp2
          go_ret
          exact told_yes (by omega)
  · skip
    go_enter Try.func25, Try.ntmps25
    go_wp2
    go_loop [7] (fun i => Rg a n i) (fun i => n - (intOf i).toNat)
    case atStart => exact Rg.mk a _ (Nat.le_refl _) (by omega) rfl
    case round =>
      obtain ⟨k, hk1, hk2, rfl⟩ := hrel
      by_cases hlt : k < n
      · go_wp2
        · go_ret
          exact told_no
        · go_round
          case rel => exact Rg.mk (k + 1) _ (by omega) (by omega) (by omega)
          case measure => simp [intOf]; omega
      · go_wp2
        go_ret
        exact told_yes (by omega)

/-- A call that answers some int and leaves the world as it is. -/
def SomeInt (w : World) (e : Ending) (w' : World) : Prop := ∃ z : Int, e = .returned (.int .i64 z) ∧ w = w'
/-- A counter that goes down. -/
def Dn (n : Nat) (v : Value) : Prop := ∃ k : Nat, k ≤ n ∧ v = .int .i64 k
theorem Dn.mk {n : Nat} (k : Nat) (z : Int) (h2 : k ≤ n) (h3 : z = (k : Int)) : Dn n (.int .i64 z) := ⟨k, h2, by rw [h3]⟩
set_option maxHeartbeats 1000000 in
theorem lineStart_any (s : ByteArray) (a : Nat) (w : World) (hs : s.size ≤ maxLen) (ha : a ≤ s.size) :
    Calls Try.prog 26 #[.string s, .int .i64 a] w (SomeInt w) := by
  unfold maxLen at hs
  go_enter Try.func26, Try.ntmps26
  go_wp2
  go_loop [1] (fun i => Dn a i) (fun i => (intOf i).toNat)
  case atStart => exact Dn.mk a _ (Nat.le_refl _) rfl
  case round =>
    obtain ⟨k, hk, rfl⟩ := hrel
    by_cases hlt : 0 < k
    · have hk1 : k - 1 < s.size := by omega
      by_cases e : ((s[k - 1].toNat : Int) != 10) = true
      · go_wp2
        go_round
        case rel => exact Dn.mk (k - 1) _ (by omega) (by omega)
        case measure => simp [intOf]; omega
      · have e' : ((s[k - 1].toNat : Int) != 10) = false := by simpa using e
        clear e
        go_wp2
        go_ret
        exact ⟨_, rfl, rfl⟩
    · go_wp2
      go_ret
      exact ⟨_, rfl, rfl⟩
end Go.Proofs.Qxb6615727a
