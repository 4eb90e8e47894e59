/-
  Seat b6615727a: appendRune of the two-pass model.
-/
import Derived.Test.Qxb6615727aWalkK
import Derived.Test.Qxb6615727aBld
import Derived.Laws.AppendOwn
namespace Go.Proofs.Qxb6615727a
open Go.RowKit

/-- the bytes xs lie in a row of the call's own, behind v. -/
def OB (B : Nat) (xs : List Value) (v : Value) (w : World) : Prop := B ≤ w.heap.size ∧ w.ownsRow B 5 1 v xs.length xs
theorem own_slice {w : World} {B : Nat} {e : TypeId} {v : Value} {n : Nat} {xs : List Value} (h : w.ownsRow B e 1 v n xs) : ∃ ao m c, v = .slice ao m c := by
  rcases h.2 with ⟨rfl, _⟩ | ⟨g, cap, cur, rfl, _⟩
  · exact ⟨_, _, _, rfl⟩
  · exact ⟨_, _, _, rfl⟩
def OBs (B : Nat) (w : World) (ys : List Value) (e : Ending) (w' : World) : Prop := ∃ v', e = .returned v' ∧ OB B ys v' w' ∧ Below B w w'
theorem ob_end {B : Nat} {w w2 : World} {o : Obj} {v v' : Value} {xs ys : List Value} {k : Nat} (h : w.ownsRow B 5 1 v xs.length xs) (hB : B ≤ w.heap.size) (hk : k = ys.length)
    (ho : w2.ownsRow B 5 1 v' (xs.length + k) (xs ++ ys)) (hg : (w.alloc o).grownBy w2 v.ownBlock) : OB B (xs ++ ys) v' w2 ∧ Below B w w2 := by
  have hb : Below B w w2 := ((Below.refl B w).alloc hB o).grown hg (by simp only [World.size_alloc]; omega) (fun k e => (h.lt k e).1)
  refine ⟨⟨Nat.le_trans hB hb.size, ?_⟩, hb⟩
  rw [List.length_append, ← hk]; exact ho

theorem mask6 (x : Int) (h0 : 0 ≤ x) (h1 : x < 2147483648) : bits .and .i32 x 63 = x % 64 := bits_mask .i32 31 (by decide) wraps_i32 6 (by omega) x h0 h1
theorem join4' (x y : Int) (hx0 : 0 ≤ x) (hx : x % 16 = 0) (hx1 : x < 2147483648) (h0 : 0 ≤ y) (h1 : y < 16) : bits .or .i32 x y = x + y := bits_join .i32 31 (by decide) wraps_i32 4 x y hx0 hx hx1 h0 h1 (by omega)
theorem join6 (x y : Int) (hx0 : 0 ≤ x) (hx : x % 64 = 0) (hx1 : x < 2147483648) (h0 : 0 ≤ y) (h1 : y < 64) : bits .or .i32 x y = x + y := bits_join .i32 31 (by decide) wraps_i32 6 x y hx0 hx hx1 h0 h1 (by omega)

set_option maxHeartbeats 1000000 in
set_option maxRecDepth 100000 in
theorem appendRune_1 (B : Nat) (v : Value) (xs : List Value) (r : Int) (w : World) (h0 : 0 ≤ r) (h1 : r < 128) (h : OB B xs v w) (hlen : xs.length + 4 ≤ 140737488355328) :
    Calls Try.prog 36 #[v, .int .i32 r] w (OBs B w (xs ++ Lib.runeCells r)) := by
  obtain ⟨hBw, hown⟩ := h
  obtain ⟨ao, mm, cp, rfl⟩ := own_slice hown
  obtain ⟨i0, hi, hz0, hz1, hz2⟩ := byteInfo
  have eR : Lib.runeCells r = [.int .u8 r] := by unfold Lib.runeCells; rw [Lib.encodeRuneZ_one h0 (by omega)]; rfl
  rw [eR]
  clear eR
  go_enter Try.func36, Try.ntmps36
  go_wp2_with (at_builtin; refine wpList_append_own _ rfl _ _ 58 rfl B 5 i0 (.int .u8 0) 1 1 Try.underlying58 hi hz0 hz1 hz2 rfl (by decide) _ _ _ rfl (hown.alloc _) ⟨w.heap.size, 0, none⟩ 1 1 [.int .u8 r] rfl rfl ?c1 ?c2 ?c3 ?c4 ?c5 ?_)
  case c1 =>
    intro j u hj
    match j, hj with
    | 0, hj => simp at hj; subst hj; simp [Addr.add]
  case c2 => intro u hu; simp at hu; rcases hu with rfl <;> rfl
  case c3 => unfold maxLen; omega
  case c4 => omega
  case c5 => simp; omega
  intro v' w2 hown' hgrow _
  go_wp2
  go_ret
  exact ⟨_, rfl, ob_end hown hBw rfl hown' hgrow⟩

set_option maxHeartbeats 1000000 in
set_option maxRecDepth 100000 in
theorem appendRune_2 (B : Nat) (v : Value) (xs : List Value) (r : Int) (w : World) (h0 : 128 ≤ r) (h1 : r < 2048) (h : OB B xs v w) (hlen : xs.length + 4 ≤ 140737488355328) :
    Calls Try.prog 36 #[v, .int .i32 r] w (OBs B w (xs ++ Lib.runeCells r)) := by
  obtain ⟨hBw, hown⟩ := h
  obtain ⟨ao, mm, cp, rfl⟩ := own_slice hown
  obtain ⟨i0, hi, hz0, hz1, hz2⟩ := byteInfo
  have eR : Lib.runeCells r = [.int .u8 (192 + r / 64), .int .u8 (128 + r % 64)] := by unfold Lib.runeCells; rw [Lib.encodeRuneZ_two h0 (by omega)]; rfl
  rw [eR]
  clear eR
  have e1 : bits .and .i32 r 63 = r % 64 := mask6 r (by omega) (by omega)
  have e2 : bits .or .i32 128 (r % 64) = 128 + r % 64 := join6 128 _ (by omega) (by omega) (by omega) (by omega) (by omega)
  have e3 : (128 + r % 64) % 256 = 128 + r % 64 := by omega
  go_enter Try.func36, Try.ntmps36
  go_wp2_with (at_builtin; refine wpList_append_own _ rfl _ _ 58 rfl B 5 i0 (.int .u8 0) 1 1 Try.underlying58 hi hz0 hz1 hz2 rfl (by decide) _ _ _ rfl (hown.alloc _) ⟨w.heap.size, 0, none⟩ 2 2 [.int .u8 (192 + r / 64), .int .u8 (128 + r % 64)] rfl rfl ?c1 ?c2 ?c3 ?c4 ?c5 ?_)
  case c1 =>
    intro j u hj
    match j, hj with
    | 0, hj => simp at hj; subst hj; simp [Addr.add]
    | 1, hj => simp at hj; subst hj; simp [Addr.add]
  case c2 => intro u hu; simp at hu; rcases hu with rfl | rfl <;> rfl
  case c3 => unfold maxLen; omega
  case c4 => omega
  case c5 => simp; omega
  intro v' w2 hown' hgrow _
  go_wp2
  go_ret
  exact ⟨_, rfl, ob_end hown hBw rfl hown' hgrow⟩

set_option maxHeartbeats 1000000 in
set_option maxRecDepth 100000 in
theorem appendRune_3 (B : Nat) (v : Value) (xs : List Value) (r : Int) (w : World) (hr : (2048 ≤ r ∧ r < 55296) ∨ (57343 < r ∧ r ≤ 65535)) (h : OB B xs v w) (hlen : xs.length + 4 ≤ 140737488355328) :
    Calls Try.prog 36 #[v, .int .i32 r] w (OBs B w (xs ++ Lib.runeCells r)) := by
  obtain ⟨hBw, hown⟩ := h
  obtain ⟨ao, mm, cp, rfl⟩ := own_slice hown
  obtain ⟨i0, hi, hz0, hz1, hz2⟩ := byteInfo
  have eR : Lib.runeCells r = [.int .u8 (224 + r / 4096), .int .u8 (128 + r / 64 % 64), .int .u8 (128 + r % 64)] := by unfold Lib.runeCells; rw [Lib.encodeRuneZ_three hr]; rfl
  rw [eR]
  clear eR
  have hR : Hid _ := hr
  have h0 : 2048 ≤ r := by omega
  have h1 : r < 65536 := by omega
  clear hr
  have e1 : bits .and .i32 r 63 = r % 64 := mask6 r (by omega) (by omega)
  have e2 : bits .or .i32 128 (r % 64) = 128 + r % 64 := join6 128 _ (by omega) (by omega) (by omega) (by omega) (by omega)
  have e3 : (128 + r % 64) % 256 = 128 + r % 64 := by omega
  have e4 : bits .and .i32 (r / 64) 63 = r / 64 % 64 := mask6 _ (by omega) (by omega)
  have e5 : bits .or .i32 128 (r / 64 % 64) = 128 + r / 64 % 64 := join6 128 _ (by omega) (by omega) (by omega) (by omega) (by omega)
  have e6 : (128 + r / 64 % 64) % 256 = 128 + r / 64 % 64 := by omega
  have ea : bits .or .i32 224 (r / 4096) = 224 + r / 4096 := join4' 224 _ (by omega) (by omega) (by omega) (by omega) (by omega)
  have eb : (224 + r / 4096) % 256 = 224 + r / 4096 := by omega
  go_enter Try.func36, Try.ntmps36
  go_wp2_with (at_builtin; refine wpList_append_own _ rfl _ _ 58 rfl B 5 i0 (.int .u8 0) 1 1 Try.underlying58 hi hz0 hz1 hz2 rfl (by decide) _ _ _ rfl (hown.alloc _) ⟨w.heap.size, 0, none⟩ 3 3 [.int .u8 (224 + r / 4096), .int .u8 (128 + r / 64 % 64), .int .u8 (128 + r % 64)] rfl rfl ?c1 ?c2 ?c3 ?c4 ?c5 ?_)
  case c1 =>
    intro j u hj
    match j, hj with
    | 0, hj => simp at hj; subst hj; simp [Addr.add]
    | 1, hj => simp at hj; subst hj; simp [Addr.add]
    | 2, hj => simp at hj; subst hj; simp [Addr.add]
  case c2 => intro u hu; simp at hu; rcases hu with rfl | rfl | rfl <;> rfl
  case c3 => unfold maxLen; omega
  case c4 => omega
  case c5 => simp; omega
  intro v' w2 hown' hgrow _
  go_wp2
  go_ret
  exact ⟨_, rfl, ob_end hown hBw rfl hown' hgrow⟩

set_option maxHeartbeats 1000000 in
set_option maxRecDepth 100000 in
theorem appendRune_4 (B : Nat) (v : Value) (xs : List Value) (r : Int) (w : World) (h0 : 65536 ≤ r) (h1 : r ≤ 1114111) (h : OB B xs v w) (hlen : xs.length + 4 ≤ 140737488355328) :
    Calls Try.prog 36 #[v, .int .i32 r] w (OBs B w (xs ++ Lib.runeCells r)) := by
  obtain ⟨hBw, hown⟩ := h
  obtain ⟨ao, mm, cp, rfl⟩ := own_slice hown
  obtain ⟨i0, hi, hz0, hz1, hz2⟩ := byteInfo
  have eR : Lib.runeCells r = [.int .u8 (240 + r / 262144), .int .u8 (128 + r / 4096 % 64), .int .u8 (128 + r / 64 % 64), .int .u8 (128 + r % 64)] := by unfold Lib.runeCells; rw [Lib.encodeRuneZ_four h0 h1]; rfl
  rw [eR]
  clear eR
  have e1 : bits .and .i32 r 63 = r % 64 := mask6 r (by omega) (by omega)
  have e2 : bits .or .i32 128 (r % 64) = 128 + r % 64 := join6 128 _ (by omega) (by omega) (by omega) (by omega) (by omega)
  have e3 : (128 + r % 64) % 256 = 128 + r % 64 := by omega
  have e4 : bits .and .i32 (r / 64) 63 = r / 64 % 64 := mask6 _ (by omega) (by omega)
  have e5 : bits .or .i32 128 (r / 64 % 64) = 128 + r / 64 % 64 := join6 128 _ (by omega) (by omega) (by omega) (by omega) (by omega)
  have e6 : (128 + r / 64 % 64) % 256 = 128 + r / 64 % 64 := by omega
  have e7 : bits .and .i32 (r / 4096) 63 = r / 4096 % 64 := mask6 _ (by omega) (by omega)
  have e8 : bits .or .i32 128 (r / 4096 % 64) = 128 + r / 4096 % 64 := join6 128 _ (by omega) (by omega) (by omega) (by omega) (by omega)
  have e9 : (128 + r / 4096 % 64) % 256 = 128 + r / 4096 % 64 := by omega
  have ea : bits .or .i32 240 (r / 262144) = 240 + r / 262144 := join4' 240 _ (by omega) (by omega) (by omega) (by omega) (by omega)
  have eb : (240 + r / 262144) % 256 = 240 + r / 262144 := by omega
  go_enter Try.func36, Try.ntmps36
  go_wp2_with (at_builtin; refine wpList_append_own _ rfl _ _ 58 rfl B 5 i0 (.int .u8 0) 1 1 Try.underlying58 hi hz0 hz1 hz2 rfl (by decide) _ _ _ rfl (hown.alloc _) ⟨w.heap.size, 0, none⟩ 4 4 [.int .u8 (240 + r / 262144), .int .u8 (128 + r / 4096 % 64), .int .u8 (128 + r / 64 % 64), .int .u8 (128 + r % 64)] rfl rfl ?c1 ?c2 ?c3 ?c4 ?c5 ?_)
  case c1 =>
    intro j u hj
    match j, hj with
    | 0, hj => simp at hj; subst hj; simp [Addr.add]
    | 1, hj => simp at hj; subst hj; simp [Addr.add]
    | 2, hj => simp at hj; subst hj; simp [Addr.add]
    | 3, hj => simp at hj; subst hj; simp [Addr.add]
  case c2 => intro u hu; simp at hu; rcases hu with rfl | rfl | rfl | rfl <;> rfl
  case c3 => unfold maxLen; omega
  case c4 => omega
  case c5 => simp; omega
  intro v' w2 hown' hgrow _
  go_wp2
  go_ret
  exact ⟨_, rfl, ob_end hown hBw rfl hown' hgrow⟩

theorem appendRune_any (B : Nat) (v : Value) (xs : List Value) (r : Int) (w : World) (h0 : 0 ≤ r) (h1 : r ≤ 1114111) (h2 : ¬ (55296 ≤ r ∧ r ≤ 57343)) (h : OB B xs v w) (hlen : xs.length + 4 ≤ 140737488355328) :
    Calls Try.prog 36 #[v, .int .i32 r] w (OBs B w (xs ++ Lib.runeCells r)) := by
  by_cases a : r < 128
  · exact appendRune_1 B v xs r w h0 a h hlen
  by_cases b : r < 2048
  · exact appendRune_2 B v xs r w (by omega) b h hlen
  by_cases c : r < 65536
  · exact appendRune_3 B v xs r w (by omega) h hlen
  exact appendRune_4 B v xs r w (by omega) h1 h hlen
end Go.Proofs.Qxb6615727a
