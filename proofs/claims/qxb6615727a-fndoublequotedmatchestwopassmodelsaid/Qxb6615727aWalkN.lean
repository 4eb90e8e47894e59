/-
  Seat b6615727a: dqModel, the two-pass model.
-/
import Derived.Test.Qxb6615727aWalkO
namespace Go.Proofs.Qxb6615727a
open Go.RowKit

theorem wrap_byte (c : UInt8) : wrap32 (c.toNat : Int) = (c.toNat : Int) := by
  have := c.toNat_lt
  unfold wrap32; omega
theorem byte_lt (c : UInt8) : c.toNat < 65536 := by have := c.toNat_lt; omega
theorem DmPost.good {r : Option (List (Bool × Nat) × Nat) × Bool} {w wr : World} {ts : List (Bool × Nat)} {m : Bool} {i : Nat} {bs : List UInt8} (hr : r = (some (ts, i), m)) (hB : bs = dec ts) (hb : Below w.heap.size w wr) :
    DmPost r w (.returned (.tuple #[.string ⟨bs.toArray⟩, .int .i64 ((i : Int) + 1), .bool true, .bool m])) wr := by
  subst hr hB
  exact ⟨rfl, hb⟩
theorem esc_no (e : UInt8) (h1 : e ≠ 34) (h2 : e ≠ 92) (h3 : e ≠ 47) (h4 : e ≠ 110) (h5 : e ≠ 116) (h6 : e ≠ 114) (h7 : e ≠ 98) (h8 : e ≠ 102) : esc1 e = none := by
  unfold esc1
  simp [h1, h2, h3, h4, h5, h6, h7, h8]
theorem hex4_none (t : ByteArray) (w : World) (hs : t.size = 4) (h : hex4 t.data.toList = none) : Calls Try.prog 35 #[.string t] w fun e w' => e = .returned (.tuple #[.int .i32 0, .bool false]) ∧ w = w' := by
  refine (hex4_four t w hs).mono ?_
  rintro e w' ⟨rfl, rfl⟩
  rw [h]; exact ⟨rfl, rfl⟩
theorem hex4_some (t : ByteArray) (v : Nat) (z : Int) (w : World) (hz : z = (v : Int)) (hs : t.size = 4) (h : hex4 t.data.toList = some v) : Calls Try.prog 35 #[.string t] w fun e w' => e = .returned (.tuple #[.int .i32 z, .bool true]) ∧ w = w' := by
  subst hz
  refine (hex4_four t w hs).mono ?_
  rintro e w' ⟨rfl, rfl⟩
  rw [h]; exact ⟨rfl, rfl⟩

set_option maxHeartbeats 20000000 in
set_option maxRecDepth 100000 in
theorem dqModel_any (s : ByteArray) (n a : Nat) (w : World) (hs : s.size ≤ maxLen) (hsz : (s.size : Int) ≤ 1048576) (ha : a < n) (hn : n ≤ s.size) :
    Calls Try.prog 29 #[.string s, .int .i64 n, .int .i64 a] w (DmPost (tkr (seg s (a + 1) n) [] false (a + 1)) w) := by
  have hs' := hs
  unfold maxLen at hs'
  have hn' : (n : Int) ≤ (s.size : Int) := by omega
  obtain ⟨i5, hi5, hz50, hz51, hz52⟩ := byteInfo
  obtain ⟨i21, hi21, hz210, hz211, hz212⟩ := runeInfo
  go_enter Try.func29, Try.ntmps29
  go_wp2
  go_loopw [10, 11, 12, 13, 14] (fun k u e j c wr => Tm w.heap.size s n (tkr (seg s (a + 1) n) [] false (a + 1)) w k u e j c wr) (fun _ _ _ j _ _ => n - (intOf j).toNat)
  case atStart => exact ⟨a + 1, [], false, rfl, rfl, rfl, by omega, by simp, World.ownsRow_nil _ _ _ _, World.ownsRow_nil _ _ _ _, Below.refl _ _, by simp, rfl⟩
  case round =>
    obtain ⟨i, ts, m, rfl, rfl, rfl, hin, hl, hk, hu, hbel, hbd0, hr⟩ := hrel
    have hbd : Hid _ := hbd0
    clear hbd0
    obtain ⟨ak, mk, ck, rfl⟩ := own_slice hk
    obtain ⟨au, mu, cu, rfl⟩ := own_slice hu
    have Hr : Hid (tkr (seg s i n) ts m i = tkr (seg s (a + 1) n) [] false (a + 1)) := hr
    clear hr
    have zB : w.heap.size ≤ wr.heap.size := hbel.size
    have hl' : ts.length + 4 ≤ 1048576 + 4 := by omega
    by_cases hjn : i < n
    · have his : i < s.size := by omega
      cases e1 : ((s[i].toNat : Int) == 34) with
      | true =>
        have HR : Hid (tkr (seg s (a + 1) n) [] false (a + 1) = (some (ts, i), m)) := by
          show tkr _ _ _ _ = _
          rw [← Hr.out]; exact tkr_quote _ _ _ _ (tstep_close s i n hjn hn his (byteEqN _ 34 e1))
        have hmk : mk = ts.length := row_len hk
        have hmu : mu = ts.length := row_len hu
        subst hmk hmu
        clear Hr
        rename World => W0
        go_wp2_with fail
        go_loopw [20, 21] (fun o k wq => Td W0.heap.size ts W0 o k wq) (fun _ k _ => ts.length - (intOf k).toNat)
        case atStart => exact ⟨0, [], rfl, Nat.zero_le _, ⟨Nat.le_refl _, World.ownsRow_nil _ _ _ _⟩, Below.refl _ _, rfl, Nat.le_refl _⟩
        case round =>
          obtain ⟨q, bs, rfl, hq, hO, hb2, hd0, hl2⟩ := hrel
          have hd : Hid _ := hd0
          clear hd0
          obtain ⟨ao, mo, co, rfl⟩ := own_slice hO.2
          have zW : W0.heap.size ≤ wr.heap.size := hb2.size
          by_cases hqn : q < ts.length
          · obtain ⟨tb, v, htq⟩ : ∃ tb v, ts[q]? = some (tb, v) := ⟨ts[q].1, ts[q].2, by rw [List.getElem?_eq_getElem hqn]⟩
            have hv0 : v < 65536 := hbd.out (tb, v) (List.mem_of_getElem? htq)
            obtain ⟨gk, rfl, hgk, rk⟩ := row_at hk (by omega) hb2
            obtain ⟨gu, rfl, hgu, ru⟩ := row_at hu (by omega) hb2
            have Rk : Hid _ := rk
            have Ru : Hid _ := ru
            clear rk ru
            have cu : wr.cell? ⟨gu, q, none⟩ = some (.int .i32 (v : Int)) := Ru.out q _ (by rw [List.getElem?_map, htq]; rfl)
            obtain ⟨z, hz⟩ : ∃ z : Int, z = (v : Int) := ⟨_, rfl⟩
            have hz0 : 0 ≤ z := by omega
            have hz1 : z < 65536 := by omega
            rw [← hz] at cu
            have Hz : Hid _ := hz
            have Htq : Hid _ := htq
            clear hz htq hv0
            cases tb with
            | false =>
              have ck1 : wr.cell? ⟨gk, q, none⟩ = some (.int .u8 98) := Rk.out q _ (by rw [List.getElem?_map, Htq.out]; rfl)
              have own1 := hO.2
              go_wp2_with (at_builtin; refine wpList_append_own _ rfl _ _ 58 rfl W0.heap.size 5 i5 (.int .u8 0) 1 1 Try.underlying58 hi5 hz50 hz51 hz52 rfl (by decide) _ _ _ rfl (World.ownsRow.alloc own1 _) ⟨wr.heap.size, 0, none⟩ 1 1 [.int .u8 (z % 256)] rfl rfl ?c1 ?c2 ?c3 ?c4 ?c5 ?_)
              try case c1 =>
                intro j u hj
                match j, hj with
                | 0, hj => simp at hj; subst hj; simp [Addr.add]
              case c2 => intro u hu; simp at hu; subst hu; rfl
              case c3 => rw [Lib.byteCells_length]; unfold maxLen; omega
              case c4 => rw [Lib.byteCells_length]; omega
              case c5 => simp; omega
              intro o2 W1 hown hgrow _
              have hE := ob_end own1 zW rfl hown hgrow
              go_wp2
              go_roundw
              case rel => exact Td.byte (v := v) (by omega) (by omega) (by rw [← Hz.out]) hE.1 hb2 hE.2 hd.out Htq.out hl2
              case measure => simp [intOf]; omega
            | true =>
              have ck1 : wr.cell? ⟨gk, q, none⟩ = some (.int .u8 117) := Rk.out q _ (by rw [List.getElem?_map, Htq.out]; rfl)
              by_cases z1 : z < 55296
              · go_wp2_with fail
                refine (appendRune_any W0.heap.size _ (Lib.byteCells bs) (z) _ (by omega) (by omega) (by omega) hO (by rw [Lib.byteCells_length]; omega)).mono ?_
                rintro e w' ⟨v', rfl, hO2, hb3⟩
                go_wp2
                go_roundw
                case rel => exact Td.rune (d := 1) (by omega) (by omega) (by omega) hO2 hb2 hb3 hd.out (dec_plain Hz.out Htq.out (by omega)) hl2
                case measure => simp [intOf]; omega
              by_cases z2 : 57343 < z
              · have z3 : 55296 ≤ z := by omega
                have z4 : 56319 < z := by omega
                go_wp2_with fail
                refine (appendRune_any W0.heap.size _ (Lib.byteCells bs) (z) _ (by omega) (by omega) (by omega) hO (by rw [Lib.byteCells_length]; omega)).mono ?_
                rintro e w' ⟨v', rfl, hO2, hb3⟩
                go_wp2
                go_roundw
                case rel => exact Td.rune (d := 1) (by omega) (by omega) (by omega) hO2 hb2 hb3 hd.out (dec_plain Hz.out Htq.out (by omega)) hl2
                case measure => simp [intOf]; omega
              have z3 : 55296 ≤ z := by omega
              have z5 : z ≤ 57343 := by omega
              clear z1 z2
              by_cases z4 : 56319 < z
              · go_wp2_with fail
                refine (appendRune_any W0.heap.size _ (Lib.byteCells bs) (65533) _ (by omega) (by omega) (by omega) hO (by rw [Lib.byteCells_length]; omega)).mono ?_
                rintro e w' ⟨v', rfl, hO2, hb3⟩
                go_wp2
                go_roundw
                case rel => exact Td.rune (d := 1) (by omega) (by omega) (by omega) hO2 hb2 hb3 hd.out (dec_lone Hz.out Htq.out (by omega) (by omega) (fun lo _ => Or.inl (by omega))) hl2
                case measure => simp [intOf]; omega
              have z6 : z ≤ 56319 := by omega
              clear z4
              by_cases hq1 : q + 1 < ts.length
              · obtain ⟨tb2, lo, ht2⟩ : ∃ tb v, ts[q + 1]? = some (tb, v) := ⟨ts[q + 1].1, ts[q + 1].2, by rw [List.getElem?_eq_getElem hq1]⟩
                have hlo : lo < 65536 := hbd.out (tb2, lo) (List.mem_of_getElem? ht2)
                have cu2 : wr.cell? ⟨gu, q + 1, none⟩ = some (.int .i32 (lo : Int)) := Ru.out (q + 1) _ (by rw [List.getElem?_map, ht2]; rfl)
                obtain ⟨y, hy⟩ : ∃ y : Int, y = (lo : Int) := ⟨_, rfl⟩
                have hy0 : 0 ≤ y := by omega
                have hy1 : y < 65536 := by omega
                rw [← hy] at cu2
                have Hy : Hid _ := hy
                have Ht2 : Hid _ := ht2
                clear hy ht2 hlo
                cases tb2 with
                | false =>
                  have ck2 : wr.cell? ⟨gk, q + 1, none⟩ = some (.int .u8 98) := Rk.out (q + 1) _ (by rw [List.getElem?_map, Ht2.out]; rfl)
                  go_wp2_with fail
                  refine (appendRune_any W0.heap.size _ (Lib.byteCells bs) (65533) _ (by omega) (by omega) (by omega) hO (by rw [Lib.byteCells_length]; omega)).mono ?_
                  rintro e w' ⟨v', rfl, hO2, hb3⟩
                  go_wp2
                  go_roundw
                  case rel => exact Td.rune (d := 1) (by omega) (by omega) (by omega) hO2 hb2 hb3 hd.out (dec_lone Hz.out Htq.out (by omega) (by omega) (fun lo h => by rw [Ht2.out] at h; cases h)) hl2
                  case measure => simp [intOf]; omega
                | true =>
                  have ck2 : wr.cell? ⟨gk, q + 1, none⟩ = some (.int .u8 117) := Rk.out (q + 1) _ (by rw [List.getElem?_map, Ht2.out]; rfl)
                  by_cases y1 : y < 56320
                  · go_wp2_with fail
                    refine (appendRune_any W0.heap.size _ (Lib.byteCells bs) (65533) _ (by omega) (by omega) (by omega) hO (by rw [Lib.byteCells_length]; omega)).mono ?_
                    rintro e w' ⟨v', rfl, hO2, hb3⟩
                    go_wp2
                    go_roundw
                    case rel => exact Td.rune (d := 1) (by omega) (by omega) (by omega) hO2 hb2 hb3 hd.out (dec_lone Hz.out Htq.out (by omega) (by omega) (fun l2 h => by rw [Ht2.out] at h; cases h; rw [← Hy.out]; omega)) hl2
                    case measure => simp [intOf]; omega
                  by_cases y2 : 57343 < y
                  · have y3 : 56320 ≤ y := by omega
                    go_wp2_with fail
                    refine (appendRune_any W0.heap.size _ (Lib.byteCells bs) (65533) _ (by omega) (by omega) (by omega) hO (by rw [Lib.byteCells_length]; omega)).mono ?_
                    rintro e w' ⟨v', rfl, hO2, hb3⟩
                    go_wp2
                    go_roundw
                    case rel => exact Td.rune (d := 1) (by omega) (by omega) (by omega) hO2 hb2 hb3 hd.out (dec_lone Hz.out Htq.out (by omega) (by omega) (fun l2 h => by rw [Ht2.out] at h; cases h; rw [← Hy.out]; omega)) hl2
                    case measure => simp [intOf]; omega
                  have y3 : 56320 ≤ y := by omega
                  have y4 : y ≤ 57343 := by omega
                  clear y1 y2
                  go_wp2_with fail
                  refine (appendRune_any W0.heap.size _ (Lib.byteCells bs) (65536 + (z - 55296) * 1024 + (y - 56320)) _ (by omega) (by omega) (by omega) hO (by rw [Lib.byteCells_length]; omega)).mono ?_
                  rintro e w' ⟨v', rfl, hO2, hb3⟩
                  go_wp2
                  go_roundw
                  case rel => exact Td.rune (d := 2) (by omega) (by omega) (by omega) hO2 hb2 hb3 hd.out (dec_pair Hz.out Hy.out Htq.out Ht2.out (by omega) (by omega) (by omega) (by omega)) hl2
                  case measure => simp [intOf]; omega
              · have hq2 : q + 1 = ts.length := by omega
                go_wp2_with fail
                refine (appendRune_any W0.heap.size _ (Lib.byteCells bs) (65533) _ (by omega) (by omega) (by omega) hO (by rw [Lib.byteCells_length]; omega)).mono ?_
                rintro e w' ⟨v', rfl, hO2, hb3⟩
                go_wp2
                go_roundw
                case rel => exact Td.rune (d := 1) (by omega) (by omega) (by omega) hO2 hb2 hb3 hd.out (dec_lone Hz.out Htq.out (by omega) (by omega) (fun lo h => by rw [List.getElem?_eq_none (by omega)] at h; cases h)) hl2
                case measure => simp [intOf]; omega
          · have hqe : q = ts.length := by omega
            subst hqe
            have hB : Hid (bs = dec ts) := by show bs = dec ts; have h := hd.out; rw [List.drop_length] at h; simpa [dec] using h
            have hcv := conv_out hO
            have bel : Below w.heap.size w wr := hbel.trans (hb2.mono hbel.size)
            go_wp2
            exact bodyPost_ret (v := .tuple #[.string ⟨bs.toArray⟩, .int .i64 ((i : Int) + 1), .bool true, .bool m]) (by simp [results, Try.results29, go_sem]) rfl (DmPost.good HR.out hB.out bel)
      | false =>
        cases e2 : ((s[i].toNat : Int) != 92) with
        | true =>
          have Hst : Hid _ := tstep_plain s i n hjn hn his (byteNeN _ 34 e1) (neOf _ 92 e2)
          go_wp2_with (at_builtin; refine wpList_append_own _ rfl _ _ 58 rfl w.heap.size 5 i5 (.int .u8 0) 1 1 Try.underlying58 hi5 hz50 hz51 hz52 rfl (by decide) _ _ _ rfl (World.ownsRow.alloc hk _) ⟨wr.heap.size, 0, none⟩ 1 1 [.int .u8 98] rfl rfl (by intro j u hj; match j, hj with | 0, hj => simp at hj; subst hj; simp [Addr.add]) (by intro u hu; simp at hu; subst hu; rfl) (by unfold maxLen; omega) (by omega) (by simp; omega) ?_)
          intro k2 W1 hok hgk _
          obtain ⟨hk1, hu1, hb1⟩ := kgrow (t := (false, s[i].toNat)) hk hu hbel (Nat.le_refl _) rfl hok hgk
          have zB1 : w.heap.size ≤ W1.heap.size := hb1.size
          clear hk hu hbel hok hgk
          go_wp2_with (at_builtin; refine wpList_append_own _ rfl _ _ 59 rfl w.heap.size 21 i21 (.int .i32 0) 1 4 Try.underlying59 hi21 hz210 hz211 hz212 rfl (by decide) _ _ _ rfl (World.ownsRow.alloc hu1 _) ⟨W1.heap.size, 0, none⟩ 1 1 [.int .i32 (s[i].toNat : Int)] rfl rfl (by intro j u hj; match j, hj with | 0, hj => simp at hj; subst hj; simp [Addr.add, wrap_byte]) (by intro u hu; simp at hu; subst hu; rfl) (by unfold maxLen; omega) (by omega) (by simp; omega) ?_)
          intro u2 W2 hou hgu _
          have hN := ugrow (t := (false, s[i].toNat)) hk1 hu1 hb1 (Nat.le_refl _) rfl hou hgu
          clear hk1 hu1 hb1 hou hgu
          go_wp2
          go_roundw
          case rel => exact Tm.next Hr.out Hst.out (by omega) (by omega) hl (by simp) hbd.out (byte_lt _) hN
          case measure => simp [intOf]; omega
        | false =>
          have Ec : Hid (s[i] = 92) := eqOf _ 92 e2
          by_cases hend : i + 1 = n
          · have Hst : Hid _ := tstep_end s i n hend hn his Ec.out
            go_wp2
            exact bodyPost_ret (v := .tuple #[.string ⟨#[]⟩, .int .i64 0, .bool false, .bool m]) (by simp [results, Try.results29, go_sem]) rfl (DmPost.fail Hr.out Hst.out hbel)
          · have hj1 : i + 1 < n := by omega
            have hj1s : i + 1 < s.size := by omega
            cases f34 : ((s[i + 1].toNat : Int) == 34) with
            | true =>
              have Hst : Hid _ := tstep_esc s i n hj1 hn his hj1s Ec.out (by rw [byteEqN _ 34 f34]; decide) s[i + 1] false (esc_self _ (Or.inl (byteEqN _ 34 f34)))
              go_wp2_with (at_builtin; refine wpList_append_own _ rfl _ _ 58 rfl w.heap.size 5 i5 (.int .u8 0) 1 1 Try.underlying58 hi5 hz50 hz51 hz52 rfl (by decide) _ _ _ rfl (World.ownsRow.alloc hk _) ⟨wr.heap.size, 0, none⟩ 1 1 [.int .u8 98] rfl rfl (by intro j u hj; match j, hj with | 0, hj => simp at hj; subst hj; simp [Addr.add]) (by intro u hu; simp at hu; subst hu; rfl) (by unfold maxLen; omega) (by omega) (by simp; omega) ?_)
              intro k2 W1 hok hgk _
              obtain ⟨hk1, hu1, hb1⟩ := kgrow (t := (false, s[i + 1].toNat)) hk hu hbel (Nat.le_refl _) rfl hok hgk
              have zB1 : w.heap.size ≤ W1.heap.size := hb1.size
              clear hk hu hbel hok hgk
              go_wp2_with (at_builtin; refine wpList_append_own _ rfl _ _ 59 rfl w.heap.size 21 i21 (.int .i32 0) 1 4 Try.underlying59 hi21 hz210 hz211 hz212 rfl (by decide) _ _ _ rfl (World.ownsRow.alloc hu1 _) ⟨W1.heap.size, 0, none⟩ 1 1 [.int .i32 (s[i + 1].toNat : Int)] rfl rfl (by intro j u hj; match j, hj with | 0, hj => simp at hj; subst hj; simp [Addr.add, wrap_byte]) (by intro u hu; simp at hu; subst hu; rfl) (by unfold maxLen; omega) (by omega) (by simp; omega) ?_)
              intro u2 W2 hou hgu _
              have hN := ugrow (t := (false, s[i + 1].toNat)) hk1 hu1 hb1 (Nat.le_refl _) rfl hou hgu
              clear hk1 hu1 hb1 hou hgu
              go_wp2
              go_roundw
              case rel => exact Tm.next Hr.out Hst.out (by omega) (by omega) hl (by simp) hbd.out (byte_lt _) hN
              case measure => simp [intOf]; omega
            | false =>
              cases f92 : ((s[i + 1].toNat : Int) == 92) with
              | true =>
                have Hst : Hid _ := tstep_esc s i n hj1 hn his hj1s Ec.out (by rw [byteEqN _ 92 f92]; decide) s[i + 1] false (esc_self _ (Or.inr (byteEqN _ 92 f92)))
                go_wp2_with (at_builtin; refine wpList_append_own _ rfl _ _ 58 rfl w.heap.size 5 i5 (.int .u8 0) 1 1 Try.underlying58 hi5 hz50 hz51 hz52 rfl (by decide) _ _ _ rfl (World.ownsRow.alloc hk _) ⟨wr.heap.size, 0, none⟩ 1 1 [.int .u8 98] rfl rfl (by intro j u hj; match j, hj with | 0, hj => simp at hj; subst hj; simp [Addr.add]) (by intro u hu; simp at hu; subst hu; rfl) (by unfold maxLen; omega) (by omega) (by simp; omega) ?_)
                intro k2 W1 hok hgk _
                obtain ⟨hk1, hu1, hb1⟩ := kgrow (t := (false, s[i + 1].toNat)) hk hu hbel (Nat.le_refl _) rfl hok hgk
                have zB1 : w.heap.size ≤ W1.heap.size := hb1.size
                clear hk hu hbel hok hgk
                go_wp2_with (at_builtin; refine wpList_append_own _ rfl _ _ 59 rfl w.heap.size 21 i21 (.int .i32 0) 1 4 Try.underlying59 hi21 hz210 hz211 hz212 rfl (by decide) _ _ _ rfl (World.ownsRow.alloc hu1 _) ⟨W1.heap.size, 0, none⟩ 1 1 [.int .i32 (s[i + 1].toNat : Int)] rfl rfl (by intro j u hj; match j, hj with | 0, hj => simp at hj; subst hj; simp [Addr.add, wrap_byte]) (by intro u hu; simp at hu; subst hu; rfl) (by unfold maxLen; omega) (by omega) (by simp; omega) ?_)
                intro u2 W2 hou hgu _
                have hN := ugrow (t := (false, s[i + 1].toNat)) hk1 hu1 hb1 (Nat.le_refl _) rfl hou hgu
                clear hk1 hu1 hb1 hou hgu
                go_wp2
                go_roundw
                case rel => exact Tm.next Hr.out Hst.out (by omega) (by omega) hl (by simp) hbd.out (byte_lt _) hN
                case measure => simp [intOf]; omega
              | false =>
                cases f47 : ((s[i + 1].toNat : Int) == 47) with
                | true =>
                  have Hst : Hid _ := tstep_esc s i n hj1 hn his hj1s Ec.out (by rw [byteEqN _ 47 f47]; decide) 47 true (by rw [byteEqN _ 47 f47]; rfl)
                  go_wp2_with (at_builtin; refine wpList_append_own _ rfl _ _ 58 rfl w.heap.size 5 i5 (.int .u8 0) 1 1 Try.underlying58 hi5 hz50 hz51 hz52 rfl (by decide) _ _ _ rfl (World.ownsRow.alloc hk _) ⟨wr.heap.size, 0, none⟩ 1 1 [.int .u8 98] rfl rfl (by intro j u hj; match j, hj with | 0, hj => simp at hj; subst hj; simp [Addr.add]) (by intro u hu; simp at hu; subst hu; rfl) (by unfold maxLen; omega) (by omega) (by simp; omega) ?_)
                  intro k2 W1 hok hgk _
                  obtain ⟨hk1, hu1, hb1⟩ := kgrow (t := (false, (47 : UInt8).toNat)) hk hu hbel (Nat.le_refl _) rfl hok hgk
                  have zB1 : w.heap.size ≤ W1.heap.size := hb1.size
                  clear hk hu hbel hok hgk
                  go_wp2_with (at_builtin; refine wpList_append_own _ rfl _ _ 59 rfl w.heap.size 21 i21 (.int .i32 0) 1 4 Try.underlying59 hi21 hz210 hz211 hz212 rfl (by decide) _ _ _ rfl (World.ownsRow.alloc hu1 _) ⟨W1.heap.size, 0, none⟩ 1 1 [.int .i32 47] rfl rfl (by intro j u hj; match j, hj with | 0, hj => simp at hj; subst hj; simp [Addr.add]) (by intro u hu; simp at hu; subst hu; rfl) (by unfold maxLen; omega) (by omega) (by simp; omega) ?_)
                  intro u2 W2 hou hgu _
                  have hN := ugrow (t := (false, (47 : UInt8).toNat)) hk1 hu1 hb1 (Nat.le_refl _) rfl hou hgu
                  clear hk1 hu1 hb1 hou hgu
                  go_wp2
                  go_roundw
                  case rel => exact Tm.next Hr.out Hst.out (by omega) (by omega) hl (by simp) hbd.out (by decide) hN
                  case measure => simp [intOf]; omega
                | false =>
                  cases f110 : ((s[i + 1].toNat : Int) == 110) with
                  | true =>
                    have Hst : Hid _ := tstep_esc s i n hj1 hn his hj1s Ec.out (by rw [byteEqN _ 110 f110]; decide) 10 false (by rw [byteEqN _ 110 f110]; rfl)
                    go_wp2_with (at_builtin; refine wpList_append_own _ rfl _ _ 58 rfl w.heap.size 5 i5 (.int .u8 0) 1 1 Try.underlying58 hi5 hz50 hz51 hz52 rfl (by decide) _ _ _ rfl (World.ownsRow.alloc hk _) ⟨wr.heap.size, 0, none⟩ 1 1 [.int .u8 98] rfl rfl (by intro j u hj; match j, hj with | 0, hj => simp at hj; subst hj; simp [Addr.add]) (by intro u hu; simp at hu; subst hu; rfl) (by unfold maxLen; omega) (by omega) (by simp; omega) ?_)
                    intro k2 W1 hok hgk _
                    obtain ⟨hk1, hu1, hb1⟩ := kgrow (t := (false, (10 : UInt8).toNat)) hk hu hbel (Nat.le_refl _) rfl hok hgk
                    have zB1 : w.heap.size ≤ W1.heap.size := hb1.size
                    clear hk hu hbel hok hgk
                    go_wp2_with (at_builtin; refine wpList_append_own _ rfl _ _ 59 rfl w.heap.size 21 i21 (.int .i32 0) 1 4 Try.underlying59 hi21 hz210 hz211 hz212 rfl (by decide) _ _ _ rfl (World.ownsRow.alloc hu1 _) ⟨W1.heap.size, 0, none⟩ 1 1 [.int .i32 10] rfl rfl (by intro j u hj; match j, hj with | 0, hj => simp at hj; subst hj; simp [Addr.add]) (by intro u hu; simp at hu; subst hu; rfl) (by unfold maxLen; omega) (by omega) (by simp; omega) ?_)
                    intro u2 W2 hou hgu _
                    have hN := ugrow (t := (false, (10 : UInt8).toNat)) hk1 hu1 hb1 (Nat.le_refl _) rfl hou hgu
                    clear hk1 hu1 hb1 hou hgu
                    go_wp2
                    go_roundw
                    case rel => exact Tm.next Hr.out Hst.out (by omega) (by omega) hl (by simp) hbd.out (by decide) hN
                    case measure => simp [intOf]; omega
                  | false =>
                    cases f116 : ((s[i + 1].toNat : Int) == 116) with
                    | true =>
                      have Hst : Hid _ := tstep_esc s i n hj1 hn his hj1s Ec.out (by rw [byteEqN _ 116 f116]; decide) 9 false (by rw [byteEqN _ 116 f116]; rfl)
                      go_wp2_with (at_builtin; refine wpList_append_own _ rfl _ _ 58 rfl w.heap.size 5 i5 (.int .u8 0) 1 1 Try.underlying58 hi5 hz50 hz51 hz52 rfl (by decide) _ _ _ rfl (World.ownsRow.alloc hk _) ⟨wr.heap.size, 0, none⟩ 1 1 [.int .u8 98] rfl rfl (by intro j u hj; match j, hj with | 0, hj => simp at hj; subst hj; simp [Addr.add]) (by intro u hu; simp at hu; subst hu; rfl) (by unfold maxLen; omega) (by omega) (by simp; omega) ?_)
                      intro k2 W1 hok hgk _
                      obtain ⟨hk1, hu1, hb1⟩ := kgrow (t := (false, (9 : UInt8).toNat)) hk hu hbel (Nat.le_refl _) rfl hok hgk
                      have zB1 : w.heap.size ≤ W1.heap.size := hb1.size
                      clear hk hu hbel hok hgk
                      go_wp2_with (at_builtin; refine wpList_append_own _ rfl _ _ 59 rfl w.heap.size 21 i21 (.int .i32 0) 1 4 Try.underlying59 hi21 hz210 hz211 hz212 rfl (by decide) _ _ _ rfl (World.ownsRow.alloc hu1 _) ⟨W1.heap.size, 0, none⟩ 1 1 [.int .i32 9] rfl rfl (by intro j u hj; match j, hj with | 0, hj => simp at hj; subst hj; simp [Addr.add]) (by intro u hu; simp at hu; subst hu; rfl) (by unfold maxLen; omega) (by omega) (by simp; omega) ?_)
                      intro u2 W2 hou hgu _
                      have hN := ugrow (t := (false, (9 : UInt8).toNat)) hk1 hu1 hb1 (Nat.le_refl _) rfl hou hgu
                      clear hk1 hu1 hb1 hou hgu
                      go_wp2
                      go_roundw
                      case rel => exact Tm.next Hr.out Hst.out (by omega) (by omega) hl (by simp) hbd.out (by decide) hN
                      case measure => simp [intOf]; omega
                    | false =>
                      cases f114 : ((s[i + 1].toNat : Int) == 114) with
                      | true =>
                        have Hst : Hid _ := tstep_esc s i n hj1 hn his hj1s Ec.out (by rw [byteEqN _ 114 f114]; decide) 13 false (by rw [byteEqN _ 114 f114]; rfl)
                        go_wp2_with (at_builtin; refine wpList_append_own _ rfl _ _ 58 rfl w.heap.size 5 i5 (.int .u8 0) 1 1 Try.underlying58 hi5 hz50 hz51 hz52 rfl (by decide) _ _ _ rfl (World.ownsRow.alloc hk _) ⟨wr.heap.size, 0, none⟩ 1 1 [.int .u8 98] rfl rfl (by intro j u hj; match j, hj with | 0, hj => simp at hj; subst hj; simp [Addr.add]) (by intro u hu; simp at hu; subst hu; rfl) (by unfold maxLen; omega) (by omega) (by simp; omega) ?_)
                        intro k2 W1 hok hgk _
                        obtain ⟨hk1, hu1, hb1⟩ := kgrow (t := (false, (13 : UInt8).toNat)) hk hu hbel (Nat.le_refl _) rfl hok hgk
                        have zB1 : w.heap.size ≤ W1.heap.size := hb1.size
                        clear hk hu hbel hok hgk
                        go_wp2_with (at_builtin; refine wpList_append_own _ rfl _ _ 59 rfl w.heap.size 21 i21 (.int .i32 0) 1 4 Try.underlying59 hi21 hz210 hz211 hz212 rfl (by decide) _ _ _ rfl (World.ownsRow.alloc hu1 _) ⟨W1.heap.size, 0, none⟩ 1 1 [.int .i32 13] rfl rfl (by intro j u hj; match j, hj with | 0, hj => simp at hj; subst hj; simp [Addr.add]) (by intro u hu; simp at hu; subst hu; rfl) (by unfold maxLen; omega) (by omega) (by simp; omega) ?_)
                        intro u2 W2 hou hgu _
                        have hN := ugrow (t := (false, (13 : UInt8).toNat)) hk1 hu1 hb1 (Nat.le_refl _) rfl hou hgu
                        clear hk1 hu1 hb1 hou hgu
                        go_wp2
                        go_roundw
                        case rel => exact Tm.next Hr.out Hst.out (by omega) (by omega) hl (by simp) hbd.out (by decide) hN
                        case measure => simp [intOf]; omega
                      | false =>
                        cases f98 : ((s[i + 1].toNat : Int) == 98) with
                        | true =>
                          have Hst : Hid _ := tstep_esc s i n hj1 hn his hj1s Ec.out (by rw [byteEqN _ 98 f98]; decide) 8 false (by rw [byteEqN _ 98 f98]; rfl)
                          go_wp2_with (at_builtin; refine wpList_append_own _ rfl _ _ 58 rfl w.heap.size 5 i5 (.int .u8 0) 1 1 Try.underlying58 hi5 hz50 hz51 hz52 rfl (by decide) _ _ _ rfl (World.ownsRow.alloc hk _) ⟨wr.heap.size, 0, none⟩ 1 1 [.int .u8 98] rfl rfl (by intro j u hj; match j, hj with | 0, hj => simp at hj; subst hj; simp [Addr.add]) (by intro u hu; simp at hu; subst hu; rfl) (by unfold maxLen; omega) (by omega) (by simp; omega) ?_)
                          intro k2 W1 hok hgk _
                          obtain ⟨hk1, hu1, hb1⟩ := kgrow (t := (false, (8 : UInt8).toNat)) hk hu hbel (Nat.le_refl _) rfl hok hgk
                          have zB1 : w.heap.size ≤ W1.heap.size := hb1.size
                          clear hk hu hbel hok hgk
                          go_wp2_with (at_builtin; refine wpList_append_own _ rfl _ _ 59 rfl w.heap.size 21 i21 (.int .i32 0) 1 4 Try.underlying59 hi21 hz210 hz211 hz212 rfl (by decide) _ _ _ rfl (World.ownsRow.alloc hu1 _) ⟨W1.heap.size, 0, none⟩ 1 1 [.int .i32 8] rfl rfl (by intro j u hj; match j, hj with | 0, hj => simp at hj; subst hj; simp [Addr.add]) (by intro u hu; simp at hu; subst hu; rfl) (by unfold maxLen; omega) (by omega) (by simp; omega) ?_)
                          intro u2 W2 hou hgu _
                          have hN := ugrow (t := (false, (8 : UInt8).toNat)) hk1 hu1 hb1 (Nat.le_refl _) rfl hou hgu
                          clear hk1 hu1 hb1 hou hgu
                          go_wp2
                          go_roundw
                          case rel => exact Tm.next Hr.out Hst.out (by omega) (by omega) hl (by simp) hbd.out (by decide) hN
                          case measure => simp [intOf]; omega
                        | false =>
                          cases f102 : ((s[i + 1].toNat : Int) == 102) with
                          | true =>
                            have Hst : Hid _ := tstep_esc s i n hj1 hn his hj1s Ec.out (by rw [byteEqN _ 102 f102]; decide) 12 false (by rw [byteEqN _ 102 f102]; rfl)
                            go_wp2_with (at_builtin; refine wpList_append_own _ rfl _ _ 58 rfl w.heap.size 5 i5 (.int .u8 0) 1 1 Try.underlying58 hi5 hz50 hz51 hz52 rfl (by decide) _ _ _ rfl (World.ownsRow.alloc hk _) ⟨wr.heap.size, 0, none⟩ 1 1 [.int .u8 98] rfl rfl (by intro j u hj; match j, hj with | 0, hj => simp at hj; subst hj; simp [Addr.add]) (by intro u hu; simp at hu; subst hu; rfl) (by unfold maxLen; omega) (by omega) (by simp; omega) ?_)
                            intro k2 W1 hok hgk _
                            obtain ⟨hk1, hu1, hb1⟩ := kgrow (t := (false, (12 : UInt8).toNat)) hk hu hbel (Nat.le_refl _) rfl hok hgk
                            have zB1 : w.heap.size ≤ W1.heap.size := hb1.size
                            clear hk hu hbel hok hgk
                            go_wp2_with (at_builtin; refine wpList_append_own _ rfl _ _ 59 rfl w.heap.size 21 i21 (.int .i32 0) 1 4 Try.underlying59 hi21 hz210 hz211 hz212 rfl (by decide) _ _ _ rfl (World.ownsRow.alloc hu1 _) ⟨W1.heap.size, 0, none⟩ 1 1 [.int .i32 12] rfl rfl (by intro j u hj; match j, hj with | 0, hj => simp at hj; subst hj; simp [Addr.add]) (by intro u hu; simp at hu; subst hu; rfl) (by unfold maxLen; omega) (by omega) (by simp; omega) ?_)
                            intro u2 W2 hou hgu _
                            have hN := ugrow (t := (false, (12 : UInt8).toNat)) hk1 hu1 hb1 (Nat.le_refl _) rfl hou hgu
                            clear hk1 hu1 hb1 hou hgu
                            go_wp2
                            go_roundw
                            case rel => exact Tm.next Hr.out Hst.out (by omega) (by omega) hl (by simp) hbd.out (by decide) hN
                            case measure => simp [intOf]; omega
                          | false =>
                            cases f117 : ((s[i + 1].toNat : Int) == 117) with
                            | true =>
                              by_cases hq : n < i + 6
                              · have Hst : Hid _ := tstep_ushort s i n hj1 hn his hj1s Ec.out (byteEqN _ 117 f117) hq
                                go_wp2
                                exact bodyPost_ret (v := .tuple #[.string ⟨#[]⟩, .int .i64 0, .bool false, .bool m]) (by simp [results, Try.results29, go_sem]) rfl (DmPost.fail Hr.out Hst.out hbel)
                              · have hq6 : i + 6 ≤ n := by omega
                                have hz4 : (s.extract (i + 2) (i + 6)).size = 4 := by simp; omega
                                have Hz4 : Hid _ := hz4
                                clear hz4
                                have i1 : (0 : Int) ≤ (i : Int) + 2 := by omega
                                have i2 : (i : Int) + 2 ≤ (i : Int) + 6 := by omega
                                have i3 : (i : Int) + 6 ≤ (s.size : Int) := by omega
                                have G : Hid ((s.extract (i + 2) (i + 6)).data.toList = seg s (i + 2) (i + 6)) := ext_seg s (i + 2) (i + 6)
                                cases hx : hex4 (seg s (i + 2) (i + 6)) with
                                | none =>
                                  have Hst : Hid _ := tstep_ubad s i n hq6 hn his hj1s Ec.out (byteEqN _ 117 f117) hx
                                  have Hx : Hid (hex4 (s.extract (i + 2) (i + 6)).data.toList = none) := by show hex4 _ = none; rw [G.out, hx]
                                  clear hx
                                  go_wp2_with fail
                                  refine (hex4_none _ _ Hz4.out Hx.out).mono ?_
                                  rintro e w' ⟨rfl, rfl⟩
                                  go_wp2
                                  exact bodyPost_ret (v := .tuple #[.string ⟨#[]⟩, .int .i64 0, .bool false, .bool m]) (by simp [results, Try.results29, go_sem]) rfl (DmPost.fail Hr.out Hst.out hbel)
                                | some v =>
                                  obtain ⟨z, hz⟩ : ∃ z : Int, z = (v : Int) := ⟨_, rfl⟩
                                  have Hst : Hid _ := tstep_ugood s i n v hq6 hn his hj1s Ec.out (byteEqN _ 117 f117) hx
                                  have Hv : Hid (v < 65536) := hex4_lt _ _ hx
                                  have Hx : Hid (hex4 (s.extract (i + 2) (i + 6)).data.toList = some v) := by show hex4 _ = some v; rw [G.out, hx]
                                  clear hx
                                  cases hsur : isSur v with
                                  | true =>
                                    have Hs2 : Hid (tstep (seg s i n) = some (some ((true, v), true, 6))) := by show tstep (seg s i n) = _; rw [Hst.out, hsur]
                                    have v1 : (55296 : Int) ≤ z := by unfold isSur at hsur; simp at hsur; omega
                                    have v2 : z ≤ 57343 := by unfold isSur at hsur; simp at hsur; omega
                                    have Hz : Hid _ := hz
                                    clear hsur Hst hz
                                    have Hst := Hs2
                                    clear Hs2
                                    go_wp2_with fail
                                    refine (hex4_some _ v z _ Hz.out Hz4.out Hx.out).mono ?_
                                    rintro e w' ⟨rfl, rfl⟩
                                    go_wp2_with (at_builtin; refine wpList_append_own _ rfl _ _ 58 rfl w.heap.size 5 i5 (.int .u8 0) 1 1 Try.underlying58 hi5 hz50 hz51 hz52 rfl (by decide) _ _ _ rfl (World.ownsRow.alloc hk _) ⟨wr.heap.size, 0, none⟩ 1 1 [.int .u8 117] rfl rfl (by intro j u hj; match j, hj with | 0, hj => simp at hj; subst hj; simp [Addr.add]) (by intro u hu; simp at hu; subst hu; rfl) (by unfold maxLen; omega) (by omega) (by simp; omega) ?_)
                                    intro k2 W1 hok hgk _
                                    obtain ⟨hk1, hu1, hb1⟩ := kgrow (t := (true, v)) hk hu hbel (Nat.le_refl _) rfl hok hgk
                                    have zB1 : w.heap.size ≤ W1.heap.size := hb1.size
                                    clear hk hu hbel hok hgk
                                    go_wp2_with (at_builtin; refine wpList_append_own _ rfl _ _ 59 rfl w.heap.size 21 i21 (.int .i32 0) 1 4 Try.underlying59 hi21 hz210 hz211 hz212 rfl (by decide) _ _ _ rfl (World.ownsRow.alloc hu1 _) ⟨W1.heap.size, 0, none⟩ 1 1 [.int .i32 z] rfl rfl (by intro j u hj; match j, hj with | 0, hj => simp at hj; subst hj; simp [Addr.add]) (by intro u hu; simp at hu; subst hu; rfl) (by unfold maxLen; omega) (by omega) (by simp; omega) ?_)
                                    intro u2 W2 hou hgu _
                                    have hN := ugrow (t := (true, v)) hk1 hu1 hb1 (Nat.le_refl _) (by rw [Hz.out]; rfl) hou hgu
                                    clear hk1 hu1 hb1 hou hgu
                                    go_wp2
                                    go_roundw
                                    case rel => exact Tm.next Hr.out Hst.out (by omega) (by omega) hl (by simp) hbd.out Hv.out hN
                                    case measure => simp [intOf]; omega
                                  | false =>
                                    have Hs2 : Hid (tstep (seg s i n) = some (some ((true, v), false, 6))) := by show tstep (seg s i n) = _; rw [Hst.out, hsur]
                                    have v3 : z < 55296 ∨ (57343 : Int) < z := by unfold isSur at hsur; simp at hsur; omega
                                    have Hz : Hid _ := hz
                                    clear hsur Hst hz
                                    have Hst := Hs2
                                    clear Hs2
                                    rcases v3 with v3 | v3
                                    · go_wp2_with fail
                                      refine (hex4_some _ v z _ Hz.out Hz4.out Hx.out).mono ?_
                                      rintro e w' ⟨rfl, rfl⟩
                                      go_wp2_with (at_builtin; refine wpList_append_own _ rfl _ _ 58 rfl w.heap.size 5 i5 (.int .u8 0) 1 1 Try.underlying58 hi5 hz50 hz51 hz52 rfl (by decide) _ _ _ rfl (World.ownsRow.alloc hk _) ⟨wr.heap.size, 0, none⟩ 1 1 [.int .u8 117] rfl rfl (by intro j u hj; match j, hj with | 0, hj => simp at hj; subst hj; simp [Addr.add]) (by intro u hu; simp at hu; subst hu; rfl) (by unfold maxLen; omega) (by omega) (by simp; omega) ?_)
                                      intro k2 W1 hok hgk _
                                      obtain ⟨hk1, hu1, hb1⟩ := kgrow (t := (true, v)) hk hu hbel (Nat.le_refl _) rfl hok hgk
                                      have zB1 : w.heap.size ≤ W1.heap.size := hb1.size
                                      clear hk hu hbel hok hgk
                                      go_wp2_with (at_builtin; refine wpList_append_own _ rfl _ _ 59 rfl w.heap.size 21 i21 (.int .i32 0) 1 4 Try.underlying59 hi21 hz210 hz211 hz212 rfl (by decide) _ _ _ rfl (World.ownsRow.alloc hu1 _) ⟨W1.heap.size, 0, none⟩ 1 1 [.int .i32 z] rfl rfl (by intro j u hj; match j, hj with | 0, hj => simp at hj; subst hj; simp [Addr.add]) (by intro u hu; simp at hu; subst hu; rfl) (by unfold maxLen; omega) (by omega) (by simp; omega) ?_)
                                      intro u2 W2 hou hgu _
                                      have hN := ugrow (t := (true, v)) hk1 hu1 hb1 (Nat.le_refl _) (by rw [Hz.out]; rfl) hou hgu
                                      clear hk1 hu1 hb1 hou hgu
                                      go_wp2
                                      go_roundw
                                      case rel => exact Tm.next Hr.out Hst.out (by omega) (by omega) hl (by simp) hbd.out Hv.out hN
                                      case measure => simp [intOf]; omega
                                    · have v4 : (55296 : Int) ≤ z := by omega
                                      go_wp2_with fail
                                      refine (hex4_some _ v z _ Hz.out Hz4.out Hx.out).mono ?_
                                      rintro e w' ⟨rfl, rfl⟩
                                      go_wp2_with (at_builtin; refine wpList_append_own _ rfl _ _ 58 rfl w.heap.size 5 i5 (.int .u8 0) 1 1 Try.underlying58 hi5 hz50 hz51 hz52 rfl (by decide) _ _ _ rfl (World.ownsRow.alloc hk _) ⟨wr.heap.size, 0, none⟩ 1 1 [.int .u8 117] rfl rfl (by intro j u hj; match j, hj with | 0, hj => simp at hj; subst hj; simp [Addr.add]) (by intro u hu; simp at hu; subst hu; rfl) (by unfold maxLen; omega) (by omega) (by simp; omega) ?_)
                                      intro k2 W1 hok hgk _
                                      obtain ⟨hk1, hu1, hb1⟩ := kgrow (t := (true, v)) hk hu hbel (Nat.le_refl _) rfl hok hgk
                                      have zB1 : w.heap.size ≤ W1.heap.size := hb1.size
                                      clear hk hu hbel hok hgk
                                      go_wp2_with (at_builtin; refine wpList_append_own _ rfl _ _ 59 rfl w.heap.size 21 i21 (.int .i32 0) 1 4 Try.underlying59 hi21 hz210 hz211 hz212 rfl (by decide) _ _ _ rfl (World.ownsRow.alloc hu1 _) ⟨W1.heap.size, 0, none⟩ 1 1 [.int .i32 z] rfl rfl (by intro j u hj; match j, hj with | 0, hj => simp at hj; subst hj; simp [Addr.add]) (by intro u hu; simp at hu; subst hu; rfl) (by unfold maxLen; omega) (by omega) (by simp; omega) ?_)
                                      intro u2 W2 hou hgu _
                                      have hN := ugrow (t := (true, v)) hk1 hu1 hb1 (Nat.le_refl _) (by rw [Hz.out]; rfl) hou hgu
                                      clear hk1 hu1 hb1 hou hgu
                                      go_wp2
                                      go_roundw
                                      case rel => exact Tm.next Hr.out Hst.out (by omega) (by omega) hl (by simp) hbd.out Hv.out hN
                                      case measure => simp [intOf]; omega
                            | false =>
                              have Hst : Hid _ := tstep_bad s i n hj1 hn his hj1s Ec.out (byteNeN _ 117 f117) (esc_no _ (byteNeN _ 34 f34) (byteNeN _ 92 f92) (byteNeN _ 47 f47) (byteNeN _ 110 f110) (byteNeN _ 116 f116) (byteNeN _ 114 f114) (byteNeN _ 98 f98) (byteNeN _ 102 f102))
                              go_wp2
                              exact bodyPost_ret (v := .tuple #[.string ⟨#[]⟩, .int .i64 0, .bool false, .bool m]) (by simp [results, Try.results29, go_sem]) rfl (DmPost.fail Hr.out Hst.out hbel)
    · have hin2 : i = n := by omega
      subst hin2
      go_wp2
      exact bodyPost_ret (v := .tuple #[.string ⟨#[]⟩, .int .i64 0, .bool false, .bool m]) (by simp [results, Try.results29, go_sem]) rfl (DmPost.fail Hr.out (tstep_out s i) hbel)
end Go.Proofs.Qxb6615727a
