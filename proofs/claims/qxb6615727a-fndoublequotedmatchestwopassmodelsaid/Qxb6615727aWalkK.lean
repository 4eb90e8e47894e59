/-
  Seat b6615727a: hex4 of the two-pass model.
-/
import Derived.Test.Qxb6615727aWalkH
namespace Go.Proofs.Qxb6615727a
open Go.RowKit

theorem Hx.next2 {t : ByteArray} {k v : Nat} {z y : Int} (d : Nat) (hk : k < 4) (ht : t.size = 4) (hv : v < 16 ^ k) (hp : hexGo 0 (seg t 0 4) = hexGo v (seg t k 4)) (hd : hexd (t[k]'(by omega)) = some d)
    (hy : y = (v : Int) * 16 + (d : Int)) (hz : z = (k : Int) + 1) : Hx t (.int .i32 y) (.int .i64 z) := by
  have h16 : d < 16 := hexd_lt _ _ hd
  refine Hx.mk (k + 1) (v * 16 + d) _ _ (by omega) (by omega) (by omega) ?_ (hp.trans (hex_yes t k v d hk ht hd))
  rw [Nat.pow_succ]; omega
theorem pow_bd {v k : Nat} (hk : k < 4) (hv : v < 16 ^ k) : v < 4096 := Nat.lt_of_lt_of_le hv (Nat.pow_le_pow_right (by decide) (show k ≤ 3 by omega))

set_option maxHeartbeats 2000000 in
set_option maxRecDepth 100000 in
theorem hex4_four (t : ByteArray) (w : World) (h : t.size = 4) :
    Calls Try.prog 35 #[.string t] w fun e w' => e = .returned (hexVal (hex4 t.data.toList)) ∧ w = w' := by
  have e4 : hex4 t.data.toList = hexGo 0 (seg t 0 4) := by
    have h2 : t.data.toList.length = 4 := h
    unfold hex4; rw [if_pos h2, ← h, seg_all]
  rw [e4]
  clear e4
  have H4 : Hid (t.size = 4) := h
  have h4a : (t.size : Int) ≤ 4 := by omega
  have h4b : (4 : Int) ≤ (t.size : Int) := by omega
  clear h
  go_enter Try.func35, Try.ntmps35
  go_wp2
  go_loop [4, 5] (fun r i => Hx t r i) (fun _ i => 4 - (intOf i).toNat)
  case atStart => exact Hx.mk 0 0 _ _ (by omega) rfl rfl (by omega) rfl
  case round =>
    obtain ⟨k, v, hk, rfl, rfl, hv, hp⟩ := hrel
    have H : Hid (hexGo 0 (seg t 0 4) = hexGo v (seg t k 4)) := hp
    clear hp
    by_cases hlt : k < 4
    · have hkt : k < t.size := by omega
      have hvb := pow_bd hlt hv
      have hvi : (v : Int) < 4096 := by omega
      have hv0 : (0 : Int) ≤ (v : Int) := by omega
      have Hv : Hid (v < 16 ^ k) := hv
      clear hv hvb
      go_wp2
      · go_round
        case rel => exact Hx.next2 (t[k].toNat - 48) hlt H4.out Hv.out H.out (by unfold hexd; rw [if_pos (by omega)]) (by omega) rfl
        case measure => simp [intOf]; omega
      · go_round
        case rel => exact Hx.next2 (t[k].toNat - 97 + 10) hlt H4.out Hv.out H.out (by unfold hexd; rw [if_neg (by omega), if_pos (by omega)]) (by omega) rfl
        case measure => simp [intOf]; omega
      · go_ret2
        exact ⟨ret_hex (by rw [H.out, hex_no t k v hlt H4.out (by unfold hexd; rw [if_neg (by omega), if_neg (by omega), if_neg (by omega)])]; rfl), rfl⟩
      · go_round
        case rel => exact Hx.next2 (t[k].toNat - 65 + 10) hlt H4.out Hv.out H.out (by unfold hexd; rw [if_neg (by omega), if_neg (by omega), if_pos (by omega)]) (by omega) rfl
        case measure => simp [intOf]; omega
      · go_ret2
        exact ⟨ret_hex (by rw [H.out, hex_no t k v hlt H4.out (by unfold hexd; rw [if_neg (by omega), if_neg (by omega), if_neg (by omega)])]; rfl), rfl⟩
      · go_ret2
        exact ⟨ret_hex (by rw [H.out, hex_no t k v hlt H4.out (by unfold hexd; rw [if_neg (by omega), if_neg (by omega), if_neg (by omega)])]; rfl), rfl⟩
      · go_ret2
        exact ⟨ret_hex (by rw [H.out, hex_no t k v hlt H4.out (by unfold hexd; rw [if_neg (by omega), if_neg (by omega), if_neg (by omega)])]; rfl), rfl⟩
    · have hk4 : k = 4 := by omega
      subst hk4
      clear hv
      go_wp2
      go_ret2
      exact ⟨ret_hex (by rw [H.out, seg_nil]; rfl), rfl⟩
end Go.Proofs.Qxb6615727a
