/-
  Seat b6615733aF: the states that came in, and the walks that read them alone.
-/
import Derived.Test.Qxb6615733aFmtRows
import Derived.WalkKit
import Derived.WalkSpells
import Derived.WalkLawsBesides
namespace Go.Proofs.Qxb6615733aFmt
open Go.RowKit

/-- a member's answer. -/
structure St where
  id : ByteArray
  addr : ByteArray
  first : Int
  last : Int
  prom : Int
  ep : Value
  es : List (Int × Int)
  bytes : Int
  lost : Bool
  failed : Bool
/-- a slice of pairs. -/
def Ep (w : World) (v : Value) (es : List (Int × Int)) : Prop :=
  ∃ ao c, v = .slice ao es.length c ∧ es.length ≤ c ∧ es.length ≤ maxLen ∧ (0 < es.length → ∃ g o, ao = some ⟨g, o, none⟩ ∧ g < w.heap.size ∧
    ∀ k x, es[k]? = some x → w.cell? ⟨g, o + k * 2, none⟩ = some (.int .u64 x.1) ∧ w.cell? ⟨g, o + k * 2 + 1, none⟩ = some (.int .u64 x.2))
/-- nine cells from there on. -/
def StAt (w : World) (g p : Nat) (x : St) : Prop :=
  w.cell? ⟨g, p, none⟩ = some (.string x.id) ∧ w.cell? ⟨g, p + 1, none⟩ = some (.string x.addr) ∧ w.cell? ⟨g, p + 2, none⟩ = some (.int .u64 x.first) ∧ w.cell? ⟨g, p + 3, none⟩ = some (.int .u64 x.last) ∧ w.cell? ⟨g, p + 4, none⟩ = some (.int .u64 x.prom) ∧
  w.cell? ⟨g, p + 5, none⟩ = some x.ep ∧ w.cell? ⟨g, p + 6, none⟩ = some (.int .u64 x.bytes) ∧ w.cell? ⟨g, p + 7, none⟩ = some (.bool x.lost) ∧ w.cell? ⟨g, p + 8, none⟩ = some (.bool x.failed)
/-- the slice that came in. -/
def Arg (w : World) (v : Value) (xs : List St) : Prop :=
  ∃ ao c, v = .slice ao xs.length c ∧ xs.length ≤ c ∧ xs.length ≤ maxLen ∧ (0 < xs.length → ∃ g o, ao = some ⟨g, o, none⟩ ∧ g < w.heap.size ∧ ∀ (i : Nat) (x : St), xs[i]? = some x → StAt w g (o + i * 9) x) ∧
    ∀ (i : Nat) (x : St), xs[i]? = some x → Ep w x.ep x.es ∧ x.id.size ≤ maxLen ∧ x.addr.size ≤ maxLen

/-- one more. -/
theorem getSome {α : Type} {l : List α} {i : Nat} (h : i < l.length) : l[i]? = some l[i] := List.getElem?_eq_getElem h
/-- how many answered. -/
def nAns (xs : List St) : Nat := (xs.filter fun x => !x.failed).length
theorem nAns_succ (xs : List St) (i : Nat) (h : i < xs.length) : nAns (xs.take (i + 1)) = nAns (xs.take i) + (if xs[i].failed then 0 else 1) := by
  unfold nAns
  rw [List.take_succ_eq_append_getElem h, List.filter_append, List.length_append]
  cases hf : xs[i].failed <;> simp [hf]
theorem nAns_le (xs : List St) : nAns xs ≤ xs.length := List.length_filter_le _ _
def Ca (xs : List St) (vc vi : Value) : Prop := ∃ i c : Nat, vi = .int .i64 i ∧ vc = .int .i64 c ∧ i ≤ xs.length ∧ c ≤ i ∧ c = nAns (xs.take i)

set_option maxHeartbeats 2000000 in
set_option maxRecDepth 100000 in
theorem countAnswered_any (xs : List St) (v : Value) (w : World) (h : Arg w v xs) (hn : xs.length ≤ 4096) :
    Calls Tryf.prog 18 #[v] w fun e w' => e = .returned (.int .i64 (nAns xs)) ∧ w = w' := by
  obtain ⟨ao, cp, rfl, hcp, _, hst, _⟩ := h
  have HS : Hid _ := hst
  clear hst
  go_enter Tryf.func18, Tryf.ntmps18
  go_wp2
  go_loop [3, 4] (fun vc vi => Ca xs vc vi) (fun _ vi => xs.length - (intOf vi).toNat)
  case atStart => exact ⟨0, 0, rfl, rfl, Nat.zero_le _, Nat.le_refl _, rfl⟩
  case round =>
    obtain ⟨i, c, rfl, rfl, hi, hci, hc⟩ := hrel
    have Hc : Hid _ := hc
    clear hc
    by_cases hlt : i < xs.length
    · obtain ⟨g, o, rfl, hg, hs⟩ := HS.out (by omega)
      obtain ⟨x, hx⟩ : ∃ x, xs[i] = x := ⟨_, rfl⟩
      have hx0 := hs i xs[i] (getSome hlt)
      have hstep := nAns_succ xs i hlt
      rw [hx] at hx0 hstep
      obtain ⟨c0, c1, c2, c3, c4, c5, c6, c7, c8⟩ := hx0
      have HT : Hid _ := hstep
      clear hstep hs hx
      cases hf : x.failed with
      | true =>
        rw [hf] at c8
        go_wp2
        go_round
        case rel => exact ⟨i + 1, c, by go_num, rfl, hlt, by omega, by have := HT.out; rw [hf] at this; rw [this, Hc.out]; rfl⟩
        case measure => simp [intOf]; omega
      | false =>
        rw [hf] at c8
        go_wp2
        go_round
        case rel => exact ⟨i + 1, c + 1, by go_num, by go_num, hlt, by omega, by have := HT.out; rw [hf] at this; rw [this, Hc.out]; rfl⟩
        case measure => simp [intOf]; omega
    · have e : i = xs.length := by omega
      subst e
      have hc := Hc.out
      rw [List.take_length] at hc
      subst hc
      go_wp2
      go_ret
      exact ⟨rfl, rfl⟩

/-- the last pair's first number. -/
def tailOf (es : List (Int × Int)) : Int := match es.getLast? with
  | none => 0
  | some x => x.1
theorem tailOf_last {es : List (Int × Int)} (h : 0 < es.length) : tailOf es = (es[es.length - 1]'(by omega)).1 := by
  unfold tailOf
  rw [List.getLast?_eq_getElem?, getSome (by omega)]

set_option maxHeartbeats 1000000 in
set_option maxRecDepth 100000 in
theorem zzTail_any (v : Value) (es : List (Int × Int)) (w : World) (h : Ep w v es) : Calls Tryf.prog 25 #[v] w fun e w' => e = .returned (.int .u64 (tailOf es)) ∧ w = w' := by
  obtain ⟨ao, cp, rfl, hcp, hm, hst⟩ := h
  unfold maxLen at hm
  by_cases h0 : 0 < es.length
  · obtain ⟨g, o, rfl, hg, hs⟩ := hst h0
    have hx := (hs (es.length - 1) _ (getSome (by omega))).1
    rw [← tailOf_last h0] at hx
    obtain ⟨z, hz⟩ : ∃ z, tailOf es = z := ⟨_, rfl⟩
    rw [hz] at hx ⊢
    clear hst hs hz
    go_enter Tryf.func25, Tryf.ntmps25
    go_wp2
    go_ret
    exact ⟨rfl, rfl⟩
  · have e : es = [] := List.length_eq_zero_iff.mp (by omega)
    subst e
    go_enter Tryf.func25, Tryf.ntmps25
    go_wp2
    go_ret
    exact ⟨rfl, rfl⟩
set_option maxHeartbeats 1000000 in
set_option maxRecDepth 100000 in
theorem tail_any (v : Value) (es : List (Int × Int)) (w : World) (h : Ep w v es) : Calls Tryf.prog 14 #[v] w fun e w' => e = .returned (.int .u64 (tailOf es)) ∧ w = w' := by
  obtain ⟨ao, cp, rfl, hcp, hm, hst⟩ := h
  unfold maxLen at hm
  by_cases h0 : 0 < es.length
  · obtain ⟨g, o, rfl, hg, hs⟩ := hst h0
    have hx := (hs (es.length - 1) _ (getSome (by omega))).1
    rw [← tailOf_last h0] at hx
    obtain ⟨z, hz⟩ : ∃ z, tailOf es = z := ⟨_, rfl⟩
    rw [hz] at hx ⊢
    clear hst hs hz
    go_enter Tryf.func14, Tryf.ntmps14
    go_wp2
    go_ret
    exact ⟨rfl, rfl⟩
  · have e : es = [] := List.length_eq_zero_iff.mp (by omega)
    subst e
    go_enter Tryf.func14, Tryf.ntmps14
    go_wp2
    go_ret
    exact ⟨rfl, rfl⟩
/-- some bool, the world untouched. -/
def SomeB (w : World) (e : Ending) (w' : World) : Prop := ∃ b, e = .returned (.bool b) ∧ w = w'
def SomeZB (w : World) (e : Ending) (w' : World) : Prop := ∃ z b, e = .returned (.tuple #[.int .i64 z, .bool b]) ∧ w = w'
set_option maxHeartbeats 1000000 in
set_option maxRecDepth 100000 in
theorem add_any (a b : Int) (w : World) : Calls Tryf.prog 10 #[.int .i64 a, .int .i64 b] w (SomeZB w) := by
  by_cases h1 : b < 0
  · go_enter Tryf.func10, Tryf.ntmps10
    go_wp2
    exact bodyPost_ret (v := .tuple #[.int .i64 a, .bool false]) (by simp [results, Tryf.results10, go_sem]) rfl ⟨_, _, rfl, rfl⟩
  · by_cases h2 : wrap64 (1048576 - a) < b
    · go_enter Tryf.func10, Tryf.ntmps10
      go_wp2
      exact bodyPost_ret (v := .tuple #[.int .i64 a, .bool false]) (by simp [results, Tryf.results10, go_sem]) rfl ⟨_, _, rfl, rfl⟩
    · go_enter Tryf.func10, Tryf.ntmps10
      go_wp2
      exact bodyPost_ret (v := .tuple #[.int .i64 (wrap64 (a + b)), .bool true]) (by simp [results, Tryf.results10, go_sem]) rfl ⟨_, _, rfl, rfl⟩
end Go.Proofs.Qxb6615733aFmt
