/-
  Seat b6615733aF: the law's own bounds.
-/
import Derived.Test.Qxb6615733aFmtWalkA
namespace Go.Proofs.Qxb6615733aFmt
open Go.RowKit

def Cb (xs : List St) (vn vi : Value) : Prop := ∃ (i : Nat) (z : Int), vi = .int .i64 i ∧ vn = .int .i64 z ∧ i ≤ xs.length

set_option maxHeartbeats 4000000 in
set_option maxRecDepth 100000 in
theorem bytes_any (xs : List St) (v : Value) (w : World) (h : Arg w v xs) : Calls Tryf.prog 4 #[v] w (SomeB w) := by
  obtain ⟨ao, cp, rfl, hcp, hm, hst, hep⟩ := h
  unfold maxLen at hm
  have HS : Hid _ := hst
  have HE : Hid _ := hep
  clear hst hep
  by_cases hb : 1048576 < (xs.length : Int)
  · go_enter Tryf.func4, Tryf.ntmps4
    go_wp2
    go_ret
    exact ⟨_, rfl, rfl⟩
  go_enter Tryf.func4, Tryf.ntmps4
  go_wp2_with fail
  go_loop [3, 4] (fun vn vi => Cb xs vn vi) (fun _ vi => xs.length - (intOf vi).toNat)
  case atStart => exact ⟨0, _, rfl, rfl, Nat.zero_le _⟩
  case round =>
    obtain ⟨i, z, rfl, rfl, hi⟩ := hrel
    by_cases hlt : i < xs.length
    · obtain ⟨g, o, rfl, hg, hs⟩ := HS.out (by omega)
      obtain ⟨x, hx⟩ : ∃ x, xs[i] = x := ⟨_, rfl⟩
      have hx0 := hs i xs[i] (getSome hlt)
      have hx1 := HE.out i xs[i] (getSome hlt)
      rw [hx] at hx0 hx1
      obtain ⟨c0, c1, c2, c3, c4, c5, c6, c7, c8⟩ := hx0
      obtain ⟨⟨ao2, cp2, hep, hcp2, hm2, _⟩, hl1, hl2⟩ := hx1
      rw [hep] at c5
      unfold maxLen at hm2 hl1 hl2
      clear hs hx hep
      go_wp2
      all_goals first
        | (go_ret; exact ⟨_, rfl, rfl⟩)
        | (go_round
           case rel => exact ⟨i + 1, _, by go_num, rfl, hlt⟩
           case measure => simp [intOf]; omega)
    · go_wp2
      go_ret
      exact ⟨_, rfl, rfl⟩
def SomeFit (xs : List St) (w : World) (e : Ending) (w' : World) : Prop := ∃ z b, e = .returned (.tuple #[.int .i64 z, .bool b]) ∧ w = w' ∧ (b = true → ∀ (i : Nat) (x : St), xs[i]? = some x → x.es.length ≤ 65536)
def Cf (xs : List St) (vn vi : Value) : Prop := ∃ (i : Nat) (z : Int), vi = .int .i64 i ∧ vn = .int .i64 z ∧ i ≤ xs.length ∧ (∀ (j : Nat) (x : St), j < i → xs[j]? = some x → x.es.length ≤ 65536)
set_option maxHeartbeats 4000000 in
set_option maxRecDepth 100000 in
theorem fit_any (xs : List St) (v : Value) (w : World) (h : Arg w v xs) (hn : xs.length ≤ 4096) : Calls Tryf.prog 5 #[.int .i64 0, v] w (SomeFit xs w) := by
  obtain ⟨ao, cp, rfl, hcp, hm, hst, hep⟩ := h
  have HS : Hid _ := hst
  have HE : Hid _ := hep
  clear hst hep hm
  go_enter Tryf.func5, Tryf.ntmps5
  go_wp2_with fail
  go_loop [0, 6] (fun vn vi => Cf xs vn vi) (fun _ vi => xs.length - (intOf vi).toNat)
  case atStart => exact ⟨0, _, rfl, rfl, Nat.zero_le _, fun j x hj => by omega⟩
  case round =>
    obtain ⟨i, z, rfl, rfl, hi, hle⟩ := hrel
    have HL : Hid _ := hle
    clear hle
    by_cases hlt : i < xs.length
    · obtain ⟨g, o, rfl, hg, hs⟩ := HS.out (by omega)
      obtain ⟨x, hx⟩ : ∃ x, xs[i] = x := ⟨_, rfl⟩
      have hx0 := hs i xs[i] (getSome hlt)
      have hx1 := HE.out i xs[i] (getSome hlt)
      have hx2 := getSome hlt
      rw [hx] at hx0 hx1 hx2
      obtain ⟨c0, c1, c2, c3, c4, c5, c6, c7, c8⟩ := hx0
      obtain ⟨⟨ao2, cp2, hep, hcp2, hm2, _⟩, hl1, hl2⟩ := hx1
      rw [hep] at c5
      unfold maxLen at hm2 hl1 hl2
      have H2 : Hid _ := hx2
      clear hs hx hep hx2
      go_wp2_with fail
      refine (add_any _ _ _).mono ?_
      rintro e w' ⟨z1, b1, rfl, rfl⟩
      cases b1 with
      | false =>
        go_wp2
        exact bodyPost_ret (v := .tuple #[.int .i64 z1, .bool false]) (by simp [results, Tryf.results5, go_sem]) rfl ⟨_, _, rfl, rfl, fun h => by cases h⟩
      | true =>
      go_wp2_with fail
      refine (add_any _ _ _).mono ?_
      rintro e w' ⟨z2, b2, rfl, rfl⟩
      cases b2 with
      | false =>
        go_wp2
        exact bodyPost_ret (v := .tuple #[.int .i64 z2, .bool false]) (by simp [results, Tryf.results5, go_sem]) rfl ⟨_, _, rfl, rfl, fun h => by cases h⟩
      | true =>
      go_wp2_with fail
      refine (add_any _ _ _).mono ?_
      rintro e w' ⟨z3, b3, rfl, rfl⟩
      cases b3 with
      | false =>
        go_wp2
        exact bodyPost_ret (v := .tuple #[.int .i64 z3, .bool false]) (by simp [results, Tryf.results5, go_sem]) rfl ⟨_, _, rfl, rfl, fun h => by cases h⟩
      | true =>
      by_cases he : 65536 < (x.es.length : Int)
      · go_wp2
        exact bodyPost_ret (v := .tuple #[.int .i64 z3, .bool false]) (by simp [results, Tryf.results5, go_sem]) rfl ⟨_, _, rfl, rfl, fun h => by cases h⟩
      · go_wp2_with fail
        refine (add_any _ _ _).mono ?_
        rintro e w' ⟨z4, b4, rfl, rfl⟩
        cases b4 with
        | false =>
          go_wp2
          exact bodyPost_ret (v := .tuple #[.int .i64 z4, .bool false]) (by simp [results, Tryf.results5, go_sem]) rfl ⟨_, _, rfl, rfl, fun h => by cases h⟩
        | true =>
          have hN : ∀ (j : Nat) (y : St), j < i + 1 → xs[j]? = some y → y.es.length ≤ 65536 := by
            intro j y hj hy
            by_cases c : j < i
            · exact HL.out j y c hy
            · have : j = i := by omega
              subst this
              rw [H2.out] at hy
              cases hy
              omega
          have HN : Hid _ := hN
          clear hN
          go_wp2
          go_round
          case rel => exact ⟨i + 1, _, by go_num, rfl, hlt, HN.out⟩
          case measure => simp [intOf]; omega
    · go_wp2
      exact bodyPost_ret (v := .tuple #[.int .i64 z, .bool true]) (by simp [results, Tryf.results5, go_sem]) rfl ⟨_, _, rfl, rfl, fun _ j y hy => HL.out j y (by have := (List.getElem?_eq_some_iff.1 hy).1; omega) hy⟩
end Go.Proofs.Qxb6615733aFmt
