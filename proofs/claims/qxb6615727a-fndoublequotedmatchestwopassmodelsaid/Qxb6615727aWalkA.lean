/-
  DERIVED. Seat b6615727a: contracts of the callees shared by the laws on restBlank and documentStart.
-/
import Derived.Test.Qxb6615727aRows
import Derived.Test.Qxb6615727aPlain
import Derived.WalkKit
import Derived.WalkSpells
import Derived.WalkLawsBesides
namespace Go.Proofs.Qxb6615727a
open Go.RowKit

/-- A bool's ending. -/
theorem ret_bool {a b : Bool} (h : a = b) : Ending.returned (.bool a) = .returned (.bool b) := by rw [h]

set_option maxHeartbeats 400000 in
theorem bytes3 (s : ByteArray) (a b c : Int) (w : World) (hs : s.size ≤ maxLen) (h : (s.size : Int) ≤ 1048576) :
    Calls Try.prog 10 #[.string s, .int .i64 a, .int .i64 b, .int .i64 c] w fun e w' => e = .returned (.bool true) ∧ w = w' := by
  unfold maxLen at hs
  go_enter Try.func10, Try.ntmps10
  go_wp2
  go_ret
  exact ⟨rfl, rfl⟩

set_option maxHeartbeats 400000 in
theorem bytes3_no (s : ByteArray) (a b c : Int) (w : World) (h : (1048576 : Int) < (s.size : Int)) :
    Calls Try.prog 10 #[.string s, .int .i64 a, .int .i64 b, .int .i64 c] w fun e w' => e = .returned (.bool false) ∧ w = w' := by
  go_enter Try.func10, Try.ntmps10
  go_wp2
  go_ret
  exact ⟨rfl, rfl⟩

/-- A call that answers some bool, leaves the world as it is, and where it answers true tells 'P'. -/
def Told (P : Prop) (w : World) (e : Ending) (w' : World) : Prop := ∃ b : Bool, e = .returned (.bool b) ∧ w = w' ∧ (b = true → P)
theorem told_no {P : Prop} {w : World} : Told P w (.returned (.bool false)) w := ⟨false, rfl, rfl, fun h => absurd h Bool.false_ne_true⟩
theorem told_yes {P : Prop} {w : World} (h : P) : Told P w (.returned (.bool true)) w := ⟨true, rfl, rfl, fun _ => h⟩

/-- A counter between two bounds. -/
def Rg (l n : Nat) (v : Value) : Prop := ∃ k : Nat, l ≤ k ∧ k ≤ n ∧ v = .int .i64 k
theorem Rg.mk {l n : Nat} (k : Nat) (z : Int) (h1 : l ≤ k) (h2 : k ≤ n) (h3 : z = (k : Int)) : Rg l n (.int .i64 z) := ⟨k, h1, h2, by rw [h3]⟩

set_option maxHeartbeats 1000000 in
/-- 'lineOK': whatever it answers, the world stands; where it answers true the bounds hold. -/
theorem lineOK_any (s : ByteArray) (line eol : Int) (w : World) (hs : s.size ≤ maxLen) :
    Calls Try.prog 11 #[.string s, .int .i64 line, .int .i64 eol] w (Told (0 ≤ line ∧ line ≤ eol ∧ eol ≤ (s.size : Int)) w) := by
  unfold maxLen at hs
  by_cases c1 : line < 0
  · go_enter Try.func11, Try.ntmps11
    go_wp2
    go_ret
    exact told_no
  by_cases c2 : eol < line
  · go_enter Try.func11, Try.ntmps11
    go_wp2
    go_ret
    exact told_no
  by_cases c3 : (s.size : Int) < eol
  · go_enter Try.func11, Try.ntmps11
    go_wp2
    go_ret
    exact told_no
  obtain ⟨l, rfl⟩ := Int.eq_ofNat_of_zero_le (show 0 ≤ line by omega)
  obtain ⟨n, rfl⟩ := Int.eq_ofNat_of_zero_le (show 0 ≤ eol by omega)
  by_cases c4 : n < s.size
  · by_cases e4 : ((s[n].toNat : Int) != 10) = true
    · go_enter Try.func11, Try.ntmps11
      go_wp2
      go_ret
      exact told_no
    · have e4' : ((s[n].toNat : Int) != 10) = false := by simpa using e4
      clear e4
      by_cases c5 : 0 < l
      · have c6 : l - 1 < s.size := by omega
        by_cases e5 : ((s[l - 1].toNat : Int) != 10) = true
        · go_enter Try.func11, Try.ntmps11
          go_wp2
          go_ret
          exact told_no
        · have e5' : ((s[l - 1].toNat : Int) != 10) = false := by simpa using e5
          clear e5
          go_enter Try.func11, Try.ntmps11
          go_wp2
          go_loop [7] (fun i => Rg l n i) (fun i => n - (intOf i).toNat)
          case atStart => exact Rg.mk l _ (Nat.le_refl _) (by omega) rfl
          case round =>
            obtain ⟨k, hk1, hk2, rfl⟩ := hrel
            by_cases hlt : k < n
            · go_wp2
              · go_ret
                exact told_no
              · go_round
                case rel => exact Rg.mk (k + 1) _ (by omega) (by omega) (by omega)
                case measure => simp [intOf]; omega
            · go_wp2
              go_ret
              exact told_yes (by omega)
      · skip
        go_enter Try.func11, Try.ntmps11
        go_wp2
        go_loop [7] (fun i => Rg l n i) (fun i => n - (intOf i).toNat)
        case atStart => exact Rg.mk l _ (Nat.le_refl _) (by omega) rfl
        case round =>
          obtain ⟨k, hk1, hk2, rfl⟩ := hrel
          by_cases hlt : k < n
          · go_wp2
            · go_ret
              exact told_no
            · go_round
              case rel => exact Rg.mk (k + 1) _ (by omega) (by omega) (by omega)
              case measure => simp [intOf]; omega
          · go_wp2
            go_ret
            exact told_yes (by omega)
  · skip
    by_cases c5 : 0 < l
    · have c6 : l - 1 < s.size := by omega
      by_cases e5 : ((s[l - 1].toNat : Int) != 10) = true
      · go_enter Try.func11, Try.ntmps11
        go_wp2
        go_ret
        exact told_no
      · have e5' : ((s[l - 1].toNat : Int) != 10) = false := by simpa using e5
        clear e5
        go_enter Try.func11, Try.ntmps11
        go_wp2
        go_loop [7] (fun i => Rg l n i) (fun i => n - (intOf i).toNat)
        case atStart => exact Rg.mk l _ (Nat.le_refl _) (by omega) rfl
        case round =>
          obtain ⟨k, hk1, hk2, rfl⟩ := hrel
          by_cases hlt : k < n
          · go_wp2
            · go_ret
              exact told_no
            · go_round
              case rel => exact Rg.mk (k + 1) _ (by omega) (by omega) (by omega)
              case measure => simp [intOf]; omega
          · go_wp2
            go_ret
            exact told_yes (by omega)
    · skip
      go_enter Try.func11, Try.ntmps11
      go_wp2
      go_loop [7] (fun i => Rg l n i) (fun i => n - (intOf i).toNat)
      case atStart => exact Rg.mk l _ (Nat.le_refl _) (by omega) rfl
      case round =>
        obtain ⟨k, hk1, hk2, rfl⟩ := hrel
        by_cases hlt : k < n
        · go_wp2
          · go_ret
            exact told_no
          · go_round
            case rel => exact Rg.mk (k + 1) _ (by omega) (by omega) (by omega)
            case measure => simp [intOf]; omega
        · go_wp2
          go_ret
          exact told_yes (by omega)

/-- The parser that 'ZZnewParser' lays: its cells. -/
def psr (s : ByteArray) (line eol at_ : Int) (esc : Bool) : Obj :=
  .cells #[.string s, .int .i64 line, .int .i64 eol, .int .i64 0, .int .i64 at_, .int .i64 0, .int .i64 0, .int .i64 0, .string { data := #[] }, .slice none 0 0, .slice none 0 0, .slice none 0 0,
    .slice none 0 0, .int .i64 0, .string { data := #[] }, .string { data := #[] }, .bool false, .bool false, .slice none 0 0, .slice none 0 0, .string { data := #[] }, .slice none 0 0, .slice none 0 0,
    .int .i64 0, .bool false, .bool esc, .bool false, .bool false, .nilFunc, .int .i64 0, .bool false, .int .i64 0, .int .i64 0] 56
set_option maxHeartbeats 1000000 in
theorem newParser_any (s : ByteArray) (line eol at_ : Int) (esc : Bool) (w : World) :
    Calls Try.prog 13 #[.string s, .int .i64 line, .int .i64 eol, .int .i64 at_, .bool esc] w fun e w' => e = .returned (.pointer (some ⟨w.heap.size, 0, none⟩)) ∧ w' = w.alloc (psr s line eol at_ esc) := by
  go_enter Try.func13, Try.ntmps13
  go_wp2
  go_ret
  exact ⟨rfl, rfl⟩

theorem psr_cells (s : ByteArray) (line eol at_ : Int) (esc : Bool) (w : World) :
    (w.alloc (psr s line eol at_ esc)).cell? ⟨w.heap.size, 0, none⟩ = some (.string s) ∧ (w.alloc (psr s line eol at_ esc)).cell? ⟨w.heap.size, 1, none⟩ = some (.int .i64 line)
    ∧ (w.alloc (psr s line eol at_ esc)).cell? ⟨w.heap.size, 2, none⟩ = some (.int .i64 eol) ∧ (w.alloc (psr s line eol at_ esc)).cell? ⟨w.heap.size, 4, none⟩ = some (.int .i64 at_)
    ∧ (w.alloc (psr s line eol at_ esc)).cell? ⟨w.heap.size, 25, none⟩ = some (.bool esc) := by
  unfold psr
  refine ⟨?_, ?_, ?_, ?_, ?_⟩ <;> simp [go_sem]

/-- A counter that has passed spaces alone. -/
def Sk (s : ByteArray) (a n : Nat) (v : Value) : Prop := ∃ k : Nat, a ≤ k ∧ k ≤ n ∧ v = .int .i64 k ∧ past (seg s a n) = past (seg s k n)
theorem Sk.mk {s : ByteArray} {a n : Nat} (k : Nat) (z : Int) (h1 : a ≤ k) (h2 : k ≤ n) (h3 : z = (k : Int)) (h4 : past (seg s a n) = past (seg s k n)) : Sk s a n (.int .i64 z) := ⟨k, h1, h2, by rw [h3], h4⟩

set_option maxHeartbeats 1000000 in
/-- '(*parser).restBlank' -/
theorem restBlank_any (b : Nat) (s : ByteArray) (n a : Nat) (w : World) (hs : s.size ≤ maxLen) (h0 : w.cell? ⟨b, 0, none⟩ = some (.string s)) (h2 : w.cell? ⟨b, 2, none⟩ = some (.int .i64 n))
    (h4 : w.cell? ⟨b, 4, none⟩ = some (.int .i64 a)) (ha : a ≤ n) (hn : n ≤ s.size) :
    Calls Try.prog 31 #[.pointer (some ⟨b, 0, none⟩)] w fun e w' => e = .returned (.bool (blank (seg s a n))) ∧ w = w' := by
  unfold maxLen at hs
  go_enter Try.func31, Try.ntmps31
  go_wp2
  go_loop [3] (fun i => Sk s a n i) (fun i => n - (intOf i).toNat)
  case atStart => exact Sk.mk a _ (Nat.le_refl _) (by omega) rfl rfl
  case round =>
    obtain ⟨k, hk1, hk2, rfl, hp⟩ := hrel
    have H : Hid (past (seg s a n) = past (seg s k n)) := hp
    clear hp
    by_cases hlt : k < n
    · have hkn : ((k : Int) == (n : Int)) = false := by simp; omega
      go_wp2
      · go_round
        case rel => exact Sk.mk (k + 1) _ (by omega) (by omega) (by omega) (H.out.trans (past_step s k n hlt hn (by omega) ‹_›))
        case measure => simp [intOf]; omega
      · go_ret
        exact ⟨ret_bool (by rw [blank_stop s a k n hk1 hlt hn (by omega) ‹_› H.out]; simp; omega), rfl⟩
      · go_ret
        exact ⟨ret_bool (by rw [blank_stop s a k n hk1 hlt hn (by omega) ‹_› H.out]; simp; omega), rfl⟩
    · have : k = n := by omega
      subst this
      go_wp2
      go_ret
      exact ⟨ret_bool (blank_end s a k H.out).symm, rfl⟩

set_option maxHeartbeats 1000000 in
/-- 'ZZrestBlank' -/
theorem zzRest_any (b : Nat) (s : ByteArray) (n a : Nat) (w : World) (hs : s.size ≤ maxLen) (h0 : w.cell? ⟨b, 0, none⟩ = some (.string s)) (h2 : w.cell? ⟨b, 2, none⟩ = some (.int .i64 n))
    (h4 : w.cell? ⟨b, 4, none⟩ = some (.int .i64 a)) (ha : a ≤ n) (hn : n ≤ s.size) :
    Calls Try.prog 12 #[.pointer (some ⟨b, 0, none⟩)] w fun e w' => e = .returned (.bool (blank (seg s a n))) ∧ w = w' := by
  go_enter Try.func12, Try.ntmps12
  go_wp2_with fail
  refine (restBlank_any b s n a w hs h0 h2 h4 ha hn).mono ?_
  rintro e w' ⟨rfl, rfl⟩
  go_wp2
  go_ret
  exact ⟨rfl, rfl⟩

/-- 'ZZrestBlank' of a parser that was just laid. -/
theorem zzRest_psr (b : Nat) (s : ByteArray) (line z y : Int) (n a : Nat) (W : World) (hb : b = W.heap.size) (hz : z = (n : Int)) (hy : y = (a : Int)) (hs : s.size ≤ maxLen) (ha : a ≤ n) (hn : n ≤ s.size) :
    Calls Try.prog 12 #[.pointer (some ⟨b, 0, none⟩)] (W.alloc (psr s line z y false)) fun e w' => e = .returned (.bool (blank (seg s a n))) ∧ W.alloc (psr s line z y false) = w' := by
  subst hb hz hy
  obtain ⟨p0, p1, p2, p4, p25⟩ := psr_cells s line n a false W
  exact zzRest_any W.heap.size s n a _ hs p0 p2 p4 ha hn
end Go.Proofs.Qxb6615727a
