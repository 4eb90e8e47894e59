/-
  Seat b6615727a: hexRune, IsSurrogate, DecodeRune, surrogate.
-/
import Derived.Test.Qxb6615727aPlainQ
import Derived.Test.Qxb6615727aWalkA
import Derived.Laws.IdiomStrings
import Derived.Laws.BitsLemmas
namespace Go.Proofs.Qxb6615727a
open Go.RowKit

/-- hexRune's answer as a value. -/
def hexVal (o : Option Nat) : Value := match o with
  | some v => .tuple #[.int .i32 v, .bool true]
  | none => .tuple #[.int .i32 0, .bool false]

set_option maxHeartbeats 1000000 in
theorem hexRune_short (t : ByteArray) (w : World) (h : t.size ≠ 4) :
    Calls Try.prog 41 #[.string t] w fun e w' => e = .returned (hexVal (hex4 t.data.toList)) ∧ w = w' := by
  have h' : ((t.size : Int) == 4) = false := by simp; omega
  have e4 : hex4 t.data.toList = none := if_neg h
  rw [e4]
  clear e4
  go_enter Try.func41, Try.ntmps41
  go_wp2
  go_ret2
  exact ⟨rfl, rfl⟩

theorem ret_hex {v : Value} {o : Option Nat} (h : v = hexVal o) : Ending.returned v = .returned (hexVal o) := by rw [h]
theorem heap_new (w : World) (o : Obj) : (w.alloc o).heap[w.heap.size]? = some o := (MapKept.heap_alloc w o).1

/-- the bytes of a string in new memory. -/
theorem bytes_new (t : ByteArray) (w : World) : ∃ cap w1, (convert 9 58 (.string t)).run Try.prog w = .ok (.slice (some ⟨w.heap.size, 0, none⟩) t.size cap) w1 ∧ t.size ≤ cap ∧ Below w.heap.size w w1
    ∧ ∀ j (hj : j < t.size), w1.cell? ⟨w.heap.size, j, none⟩ = some (.int .u8 (t[j].toNat : Int)) := by
  refine ⟨_, _, run_bytes_of_string (P := Try.prog) w 9 58 5 t Try.underlying9 Try.underlying58 Try.underlying5, grownCap_ge _ _ _ _, ((Below.refl _ w).drew).alloc (Nat.le_refl _) _, ?_⟩
  intro j hj
  have hb := heap_new w.drew (.cells (bytesRow t (grownCap w t.size 0 5)) 5 ((bytesRow t (grownCap w t.size 0 5)).size, (bytesRow t (grownCap w t.size 0 5)).size + 1))
  have hr := bytesRow_at t (grownCap w t.size 0 5) j hj
  have hz : w.drew.heap.size = w.heap.size := rfl
  rw [hz] at hb
  simp only [World.cell?, hb]
  rw [hr]; rfl

/-- the walk's state in hexRune's loop. -/
def Hx (t : ByteArray) (r i : Value) : Prop := ∃ k v : Nat, k ≤ 4 ∧ i = .int .i64 k ∧ r = .int .i32 v ∧ v < 16 ^ k ∧ hexGo 0 (seg t 0 4) = hexGo v (seg t k 4)
theorem Hx.mk {t : ByteArray} (k v : Nat) (z y : Int) (h1 : k ≤ 4) (h2 : z = (k : Int)) (h3 : y = (v : Int)) (h4 : v < 16 ^ k) (h5 : hexGo 0 (seg t 0 4) = hexGo v (seg t k 4)) : Hx t (.int .i32 y) (.int .i64 z) :=
  ⟨k, v, h1, by rw [h2], by rw [h3], h4, h5⟩

theorem or4 (x y : Int) (hx₀ : 0 ≤ x) (hx : x % 16 = 0) (hx₁ : x < 2147483648) (h₀ : 0 ≤ y) (h₁ : y < 16) : bits .or .i32 x y = x + y :=
  bits_join .i32 31 (by decide) wraps_i32 4 x y hx₀ hx hx₁ h₀ h₁ (by omega)

theorem hex_yes (t : ByteArray) (k v d : Nat) (hk : k < 4) (ht : t.size = 4) (h : hexd (t[k]'(by omega)) = some d) : hexGo v (seg t k 4) = hexGo (v * 16 + d) (seg t (k + 1) 4) := by
  rw [seg_cons t k 4 hk (by omega) (by omega), hexGo, h]
theorem hex_no (t : ByteArray) (k v : Nat) (hk : k < 4) (ht : t.size = 4) (h : hexd (t[k]'(by omega)) = none) : hexGo v (seg t k 4) = none := by
  rw [seg_cons t k 4 hk (by omega) (by omega), hexGo, h]
/-- one digit more: the walk's own spelling. -/
theorem Hx.next {t : ByteArray} {k v : Nat} {z y : Int} (d : Nat) (hk : k < 4) (ht : t.size = 4) (hv : v < 16 ^ k) (hp : hexGo 0 (seg t 0 4) = hexGo v (seg t k 4)) (hd : hexd (t[k]'(by omega)) = some d)
    (hy : y = (d : Int)) (hz : z = (k : Int) + 1) : Hx t (.int .i32 (bits .or .i32 (wrap32 ((v : Int) * 16)) y)) (.int .i64 z) := by
  have h16 : d < 16 := hexd_lt _ _ hd
  have hk3 : 16 ^ k ≤ 16 ^ 3 := Nat.pow_le_pow_right (by decide) (by omega)
  have hv3 : v < 4096 := Nat.lt_of_lt_of_le hv hk3
  have e1 : wrap32 ((v : Int) * 16) = (v : Int) * 16 := by unfold wrap32; omega
  rw [e1, or4 _ _ (by omega) (by omega) (by omega) (by omega) (by omega)]
  refine Hx.mk (k + 1) (v * 16 + d) _ _ (by omega) (by omega) (by omega) ?_ (hp.trans (hex_yes t k v d hk ht hd))
  rw [Nat.pow_succ]; omega

set_option maxHeartbeats 1000000 in
theorem hexRune_four (t : ByteArray) (w : World) (h : t.size = 4) :
    Calls Try.prog 41 #[.string t] w fun e w' => e = .returned (hexVal (hex4 t.data.toList)) ∧ Below w.heap.size w w' := by
  obtain ⟨cap, w1, hcv, hcap, hbel, hcell⟩ := bytes_new t w
  have e4 : hex4 t.data.toList = hexGo 0 (seg t 0 4) := by
    have h2 : t.data.toList.length = 4 := h
    unfold hex4; rw [if_pos h2, ← h, seg_all]
  rw [e4]
  clear e4
  rw [h] at hcv hcap
  have hcap' : (4 : Int) ≤ (cap : Int) := by omega
  go_enter Try.func41, Try.ntmps41
  go_wp2
  clear hcv
  go_loop [4, 13] (fun r i => Hx t r i) (fun _ i => 4 - (intOf i).toNat)
  case atStart => exact Hx.mk 0 0 _ _ (by omega) rfl rfl (by omega) rfl
  case round =>
    obtain ⟨k, v, hk, rfl, rfl, hv, hp⟩ := hrel
    have H : Hid (hexGo 0 (seg t 0 4) = hexGo v (seg t k 4)) := hp
    clear hp
    by_cases hlt : k < 4
    · have hc := hcell k (by omega)
      have hkt : k < t.size := by omega
      clear hcell
      go_wp2
      · go_round
        case rel => exact Hx.next (t[k].toNat - 48) hlt h hv H.out (by unfold hexd; rw [if_pos (by omega)]) (by omega) rfl
        case measure => simp [intOf]; omega
      · go_round
        case rel => exact Hx.next (t[k].toNat - 97 + 10) hlt h hv H.out (by unfold hexd; rw [if_neg (by omega), if_pos (by omega)]) (by omega) rfl
        case measure => simp [intOf]; omega
      · go_ret2
        exact ⟨ret_hex (by rw [H.out, hex_no t k v hlt h (by unfold hexd; rw [if_neg (by omega), if_neg (by omega), if_neg (by omega)])]; rfl), hbel⟩
      · go_round
        case rel => exact Hx.next (t[k].toNat - 65 + 10) hlt h hv H.out (by unfold hexd; rw [if_neg (by omega), if_neg (by omega), if_pos (by omega)]) (by omega) rfl
        case measure => simp [intOf]; omega
      · go_ret2
        exact ⟨ret_hex (by rw [H.out, hex_no t k v hlt h (by unfold hexd; rw [if_neg (by omega), if_neg (by omega), if_neg (by omega)])]; rfl), hbel⟩
      · go_ret2
        exact ⟨ret_hex (by rw [H.out, hex_no t k v hlt h (by unfold hexd; rw [if_neg (by omega), if_neg (by omega), if_neg (by omega)])]; rfl), hbel⟩
      · go_ret2
        exact ⟨ret_hex (by rw [H.out, hex_no t k v hlt h (by unfold hexd; rw [if_neg (by omega), if_neg (by omega), if_neg (by omega)])]; rfl), hbel⟩
    · have hk4 : k = 4 := by omega
      subst hk4
      go_wp2
      go_ret2
      exact ⟨ret_hex (by rw [H.out, seg_nil]; rfl), hbel⟩

theorem hexRune_any (t : ByteArray) (w : World) :
    Calls Try.prog 41 #[.string t] w fun e w' => e = .returned (hexVal (hex4 t.data.toList)) ∧ Below w.heap.size w w' := by
  by_cases h : t.size = 4
  · exact hexRune_four t w h
  · refine (hexRune_short t w h).mono ?_
    rintro e w' ⟨rfl, rfl⟩
    exact ⟨rfl, Below.refl _ _⟩

set_option maxHeartbeats 1000000 in
theorem isSurrogate_int (v : Int) (b : Bool) (w : World) (hb : decide (55296 ≤ v ∧ v < 57344) = b) :
    Calls Try.prog 42 #[.int .i32 v] w fun e w' => e = .returned (.bool b) ∧ w = w' := by
  by_cases h1 : 55296 ≤ v
  · by_cases h2 : v < 57344
    · have e : b = true := by rw [← hb]; simp [h1, h2]
      subst e; clear hb
      go_enter Try.func42, Try.ntmps42
      go_wp2
      go_ret
      exact ⟨ret_bool (by simp), rfl⟩
    · have e : b = false := by rw [← hb]; simp [h2]
      subst e; clear hb
      go_enter Try.func42, Try.ntmps42
      go_wp2
      go_ret
      exact ⟨ret_bool (by simp), rfl⟩
  · have e : b = false := by rw [← hb]; simp [h1]
    subst e; clear hb
    go_enter Try.func42, Try.ntmps42
    go_wp2
    go_ret
    exact ⟨ret_bool (by simp), rfl⟩
theorem isSurrogate_any (v : Nat) (w : World) :
    Calls Try.prog 42 #[.int .i32 v] w fun e w' => e = .returned (.bool (isSur v)) ∧ w = w' := by
  refine isSurrogate_int v _ w ?_
  unfold isSur
  rw [Bool.eq_iff_iff]
  simp only [decide_eq_true_eq]
  omega

theorem or10 (x y : Int) (hx₀ : 0 ≤ x) (hx : x % 1024 = 0) (hx₁ : x < 2147483648) (h₀ : 0 ≤ y) (h₁ : y < 1024) : bits .or .i32 x y = x + y :=
  bits_join .i32 31 (by decide) wraps_i32 10 x y hx₀ hx hx₁ h₀ h₁ (by omega)
theorem ret_i32 {a b : Int} (h : a = b) : Ending.returned (.int .i32 a) = .returned (.int .i32 b) := by rw [h]

theorem dec_num (v u : Int) (h1 : 55296 ≤ v) (h2 : v < 56320) (h3 : 56320 ≤ u) (h4 : u < 57344) : wrap32 (bits .or .i32 ((v - 55296) * 1024) (u - 56320) + 65536) = 65536 + (v - 55296) * 1024 + (u - 56320) := by
  rw [or10 _ _ (by omega) (by omega) (by omega) (by omega) (by omega)]
  unfold wrap32; omega
set_option maxHeartbeats 1000000 in
theorem decodeRune_yes (v u : Int) (w : World) (h1 : 55296 ≤ v) (h2 : v < 56320) (h3 : 56320 ≤ u) (h4 : u < 57344) :
    Calls Try.prog 46 #[.int .i32 v, .int .i32 u] w fun e w' => e = .returned (.int .i32 (65536 + (v - 55296) * 1024 + (u - 56320))) ∧ w = w' := by
  go_enter Try.func46, Try.ntmps46
  go_wp2
  go_ret
  exact ⟨ret_i32 (dec_num v u h1 h2 h3 h4), rfl⟩
set_option maxHeartbeats 1000000 in
theorem decodeRune_no (v u : Int) (w : World) (h : ¬ (55296 ≤ v ∧ v < 56320 ∧ 56320 ≤ u ∧ u < 57344)) :
    Calls Try.prog 46 #[.int .i32 v, .int .i32 u] w fun e w' => e = .returned (.int .i32 65533) ∧ w = w' := by
  by_cases h1 : 55296 ≤ v
  · by_cases h2 : v < 56320
    · by_cases h3 : 56320 ≤ u
      · have h4 : ¬ u < 57344 := by omega
        clear h
        go_enter Try.func46, Try.ntmps46
        go_wp2
        go_ret
        exact ⟨rfl, rfl⟩
      · clear h
        go_enter Try.func46, Try.ntmps46
        go_wp2
        go_ret
        exact ⟨rfl, rfl⟩
    · clear h
      go_enter Try.func46, Try.ntmps46
      go_wp2
      go_ret
      exact ⟨rfl, rfl⟩
  · clear h
    go_enter Try.func46, Try.ntmps46
    go_wp2
    go_ret
    exact ⟨rfl, rfl⟩

theorem byteEqN (c d : UInt8) (h : ((c.toNat : Int) == (d.toNat : Int)) = true) : c = d := by rw [byteEq] at h; simpa using h
theorem byteNeN (c d : UInt8) (h : ((c.toNat : Int) == (d.toNat : Int)) = false) : c ≠ d := by rw [byteEq] at h; simpa using h
def surVal (x : Nat × Nat) (k : Nat) : Value := .tuple #[.int .i32 x.1, .int .i64 ((k + x.2 : Nat) : Int)]
theorem ret_sur {v : Value} {x : Nat × Nat} {k : Nat} (h : v = surVal x k) : Ending.returned v = .returned (surVal x k) := by rw [h]
theorem surVal_none (k : Nat) : Value.tuple #[.int .i32 65533, .int .i64 (k : Int)] = surVal (65533, 0) k := rfl

theorem sur_pair (v lo k : Nat) (h1 : 55296 ≤ v) (h2 : 56320 ≤ lo) : Value.tuple #[.int .i32 (65536 + ((v : Int) - 55296) * 1024 + ((lo : Int) - 56320)), .int .i64 ((k : Int) + 6)] = surVal (65536 + (v - 55296) * 1024 + (lo - 56320), 6) k := by
  unfold surVal
  have e : ((65536 + (v - 55296) * 1024 + (lo - 56320) : Nat) : Int) = 65536 + ((v : Int) - 55296) * 1024 + ((lo : Int) - 56320) := by omega
  rw [e]
  rfl

set_option maxHeartbeats 2000000 in
theorem surrogate_any (b : Nat) (s : ByteArray) (n k v : Nat) (w : World) (hs : s.size ≤ maxLen) (h0 : w.cell? ⟨b, 0, none⟩ = some (.string s)) (h2 : w.cell? ⟨b, 2, none⟩ = some (.int .i64 n))
    (hn : n ≤ s.size) (hk : k ≤ n) (hsz : (s.size : Int) ≤ 1048576) :
    Calls Try.prog 43 #[.pointer (some ⟨b, 0, none⟩), .int .i32 v, .int .i64 k] w fun e w' => e = .returned (surVal (surr v (seg s k n)) k) ∧ Below w.heap.size w w' := by
  unfold maxLen at hs
  by_cases c1 : k + 6 ≤ n
  · have hsur := surr_at s v k n c1 hn
    cases e1 : ((s[k].toNat : Int) == 92) with
    | false =>
      have g : surr v (seg s k n) = (65533, 0) := by rw [hsur, if_neg (fun h => byteNeN _ 92 e1 h.1)]
      rw [g]; clear g hsur
      go_enter Try.func43, Try.ntmps43
      go_wp2
      go_ret2
      exact ⟨ret_sur (surVal_none k), Below.refl _ _⟩
    | true =>
      cases e2 : ((s[k + 1].toNat : Int) == 117) with
      | false =>
        have g : surr v (seg s k n) = (65533, 0) := by rw [hsur, if_neg (fun h => byteNeN _ 117 e2 h.2)]
        rw [g]; clear g hsur
        go_enter Try.func43, Try.ntmps43
        go_wp2
        go_ret2
        exact ⟨ret_sur (surVal_none k), Below.refl _ _⟩
      | true =>
        rw [if_pos ⟨byteEqN _ 92 e1, byteEqN _ 117 e2⟩] at hsur
        have Hs : Hid _ := hsur
        have G : Hid ((s.extract (k + 2) (k + 6)).data.toList = seg s (k + 2) (k + 6)) := ext_seg s (k + 2) (k + 6)
        clear hsur
        go_enter Try.func43, Try.ntmps43
        go_wp2_with fail
        refine (hexRune_any _ _).mono ?_
        rintro e w1 ⟨he, hb1⟩
        rw [G.out] at he
        subst he
        cases hx : hex4 (seg s (k + 2) (k + 6)) with
        | none =>
          have g : Hid (surr v (seg s k n) = (65533, 0)) := by show surr v (seg s k n) = _; rw [Hs.out, hx]
          unfold hexVal
          clear Hs hx
          go_wp2
          go_ret2
          exact ⟨ret_sur ((surVal_none k).trans (by rw [g.out])), hb1⟩
        | some lo =>
          unfold hexVal
          by_cases hp : 55296 ≤ v ∧ v < 56320 ∧ 56320 ≤ lo ∧ lo < 57344
          · have g : Hid (surr v (seg s k n) = (65536 + (v - 55296) * 1024 + (lo - 56320), 6)) := by show surr v (seg s k n) = _; rw [Hs.out, hx]; simp only; unfold pairUp; rw [if_pos hp]
            clear Hs hx
            obtain ⟨p1, p2, p3, p4⟩ := hp
            go_wp2_with fail
            refine (decodeRune_yes v lo _ (by omega) (by omega) (by omega) (by omega)).mono ?_
            rintro e w' ⟨rfl, rfl⟩
            have hne : ((65536 + ((v : Int) - 55296) * 1024 + ((lo : Int) - 56320)) != 65533) = true := by simp; omega
            go_wp2
            go_ret2
            exact ⟨ret_sur ((sur_pair v lo k p1 p3).trans (by rw [g.out])), hb1⟩
          · have g : Hid (surr v (seg s k n) = (65533, 0)) := by show surr v (seg s k n) = _; rw [Hs.out, hx]; simp only; unfold pairUp; rw [if_neg hp]
            clear Hs hx
            go_wp2_with fail
            refine (decodeRune_no v lo _ (by omega)).mono ?_
            rintro e w' ⟨rfl, rfl⟩
            clear hp
            go_wp2
            go_ret2
            exact ⟨ret_sur ((surVal_none k).trans (by rw [g.out])), hb1⟩
  · have g : surr v (seg s k n) = (65533, 0) := surr_miss _ _ (by rw [seg_length s k n hk hn]; omega)
    rw [g]; clear g
    go_enter Try.func43, Try.ntmps43
    go_wp2
    go_ret2
    exact ⟨ret_sur (surVal_none k), Below.refl _ _⟩
end Go.Proofs.Qxb6615727a
