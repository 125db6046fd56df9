/- 'FnSkipSNSSAIEndsAtItsEncoding' (8): the walk. -/
import Derived.Test.Qxb6002696aSnKit
namespace Go.Proofs.Qxb6002696a
open Go.RowKit
set_option linter.unusedVariables false

set_option maxHeartbeats 2000000 in
theorem bytes27 (p sst sd v : Nat) (a4 a5 a6 a9 : Option Addr) (l4 c4 l5 c5 l6 c6 l9 c9 : Nat) (hasSD long : Bool) (w : World) (m4 : l4 ≤ 9223372036854775807) (m5 : l5 ≤ 9223372036854775807) (m6 : l6 ≤ 9223372036854775807) (m9 : l9 ≤ 9223372036854775807) :
    Calls Try.prog 27 #[.int .u8 (p : Int), .int .u8 (sst : Int), .bool hasSD, .int .u32 (sd : Int), .slice a4 l4 c4, .slice a5 l5 c5, .slice a6 l6 c6, .bool long, .int .u8 (v : Int), .slice a9 l9 c9] w fun e w' => ∃ b, e = .returned (.bool b) ∧ w = w' := by
  go_enter Try.func27, Try.ntmps27
  go_wp2
  all_goals
    go_ret
    exact ⟨_, rfl, rfl⟩

set_option maxRecDepth 100000 in
set_option maxHeartbeats 4000000 in
/-- The main way: all bounds hold. -/
theorem fn8_main (p sst sd v : Nat) (a4 a5 a6 a9 : Option Addr) (l4 c4 l5 c5 l6 c6 l9 c9 : Nat) (hasSD long : Bool) (ie : List Nat) (pres : List Bool) (sizes tail : List Nat) (w : World)
    (i4 : Came w a4 l4 (ie.map u16v)) (i5 : Came w a5 l5 (pres.map Value.bool)) (i6 : Came w a6 l6 (sizes.map u16v)) (i9 : Came w a9 l9 (tail.map u8v)) (hp : p ≤ 7) (hst : sst < 256) (hsd : sd < 4294967296) (hv : v < 256) (b4 : ∀ z ∈ ie, z < 65536) (b6 : ∀ z ∈ sizes, z < 65536) (b9 : ∀ y ∈ tail, y < 256) (h4 : l4 ≤ 200) (h5 : l5 ≤ 200) (h6 : l6 ≤ 200) (h9 : l9 ≤ 4096) :
    Calls Try.prog 8 #[.int .u8 (p : Int), .int .u8 (sst : Int), .bool hasSD, .int .u32 (sd : Int), .slice a4 l4 c4, .slice a5 l5 c5, .slice a6 l6 c6, .bool long, .int .u8 (v : Int), .slice a9 l9 c9] w fun e w' => e = .returned (.bool true) ∧ Below w.heap.size w w' := by
  have t4 : decide ((200 : Int) < (l4 : Int)) = false := by simp; omega
  have t5 : decide ((200 : Int) < (l5 : Int)) = false := by simp; omega
  have t6 : decide ((200 : Int) < (l6 : Int)) = false := by simp; omega
  have t9 : decide ((4096 : Int) < (l9 : Int)) = false := by simp; omega
  have tp : decide ((7 : Int) < (p : Int)) = false := by simp; omega
  have HL4 : Hid (ie.length = l4) := (by simpa using i4.1 : ie.length = l4)
  have HL5 : Hid (pres.length = l5) := (by simpa using i5.1 : pres.length = l5)
  have HL6 : Hid (sizes.length = l6) := (by simpa using i6.1 : sizes.length = l6)
  have HL9 : Hid (tail.length = l9) := (by simpa using i9.1 : tail.length = l9)
  have in4 := i4.inAt
  have in6 := i6.inAt
  go_enter Try.func8, Try.ntmps8
  go_wp2_with fail
  refine (bytes27 p sst sd v a4 a5 a6 a9 l4 c4 l5 c5 l6 c6 l9 c9 hasSD long w (by omega) (by omega) (by omega) (by omega)).mono ?_
  rintro e w' ⟨b, rfl, rfl⟩
  cases b
  · go_wp2
    go_ret
    exact ⟨rfl, Below.refl _ _⟩
  · go_wp2
    go_loop [21] (fun i => ∃ k : Nat, k ≤ l4 ∧ i = .int .i64 (k : Int) ∧ Small ie k) (fun i => l4 - (intOf i).toNat)
    case atStart => exact ⟨0, Nat.zero_le _, rfl, fun i z hi => by omega⟩
    case round =>
      obtain ⟨k, hk, rfl, hsm⟩ := hrel
      by_cases hlt : k < l4
      · have hks : k < ie.length := by rw [HL4.out]; exact hlt
        obtain ⟨x, hax, hcx⟩ := in4 k (u16v ie[k]) (by simp [List.getElem?_eq_getElem hks])
        have HZ : Hid (ie[k]? = some ie[k]) := List.getElem?_eq_getElem hks
        have hzb := b4 ie[k] (List.getElem_mem hks)
        generalize ie[k] = z at *
        subst hax
        unfold u16v at hcx
        by_cases hz : z ≤ 255
        · have HS : Hid (Small ie (k + 1)) := hsm.succ HZ.out hz
          clear hsm HZ
          go_wp2
          go_round
          case rel => exact ⟨k + 1, by omega, by go_num, HS.out⟩
          case measure => simp [intOf]; omega
        · clear hsm HZ
          go_wp2
          go_ret
          exact ⟨rfl, Below.refl _ _⟩
      · have hy255 := hsm.all (by rw [HL4.out]; omega)
        clear hsm in4
        go_wp2
        go_loop [22] (fun i => ∃ m : Nat, m ≤ l6 ∧ i = .int .i64 (m : Int) ∧ Small sizes m) (fun i => l6 - (intOf i).toNat)
        case atStart => exact ⟨0, Nat.zero_le _, rfl, fun i z hi => by omega⟩
        case round =>
          obtain ⟨m, hm, rfl, hsm⟩ := hrel
          by_cases hmt : m < l6
          · have hks : m < sizes.length := by rw [HL6.out]; exact hmt
            obtain ⟨x, hax, hcx⟩ := in6 m (u16v sizes[m]) (by simp [List.getElem?_eq_getElem hks])
            have HZ : Hid (sizes[m]? = some sizes[m]) := List.getElem?_eq_getElem hks
            have hzb := b6 sizes[m] (List.getElem_mem hks)
            generalize sizes[m] = z at *
            subst hax
            unfold u16v at hcx
            by_cases hz : z ≤ 255
            · have HS : Hid (Small sizes (m + 1)) := hsm.succ HZ.out hz
              clear hsm HZ
              go_wp2
              go_round
              case rel => exact ⟨m + 1, by omega, by go_num, HS.out⟩
              case measure => simp [intOf]; omega
            · clear hsm HZ
              go_wp2
              go_ret
              exact ⟨rfl, Below.refl _ _⟩
          · have hs255 := hsm.all (by rw [HL6.out]; omega)
            clear hsm in6
            go_wp2_with fail
            refine (clone17 a4 l4 c4 _ w i4 (by omega) (by intro u hu; obtain ⟨z, _, rfl⟩ := List.mem_map.1 hu; exact ⟨_, rfl⟩)).mono ?_
            rintro e w1 ⟨v1, rfl, o1, e1⟩
            obtain ⟨ai, capi, hv1, A4⟩ := at_of_owns o1
            subst hv1
            clear o1
            go_wp2_with fail
            refine (clone16 a5 l5 c5 _ w1 (i5.below e1) (by omega) (by intro u hu; obtain ⟨z, _, rfl⟩ := List.mem_map.1 hu; exact ⟨z, rfl⟩)).mono ?_
            rintro e w2 ⟨v2, rfl, o2, e2⟩
            obtain ⟨ap, capp, hv2, A5⟩ := at_of_owns o2
            subst hv2
            clear o2
            have e12 : Below w.heap.size w w2 := e1.trans (e2.mono e1.size)
            go_wp2_with fail
            refine (clone17 a6 l6 c6 _ w2 (i6.below e12) (by omega) (by intro u hu; obtain ⟨z, _, rfl⟩ := List.mem_map.1 hu; exact ⟨_, rfl⟩)).mono ?_
            rintro e w2b ⟨v3, rfl, o3, e3⟩
            obtain ⟨az, capz, hv3, A6⟩ := at_of_owns o3
            subst hv3
            clear o3
            have e12b : Below w.heap.size w w2b := e12.trans (e3.mono e12.size)
            go_wp2_with fail
            refine (clone18 a9 l9 c9 _ w2b (i9.below e12b) (by omega) (by intro u hu; obtain ⟨z, _, rfl⟩ := List.mem_map.1 hu; exact ⟨_, rfl⟩)).mono ?_
            rintro e w3 ⟨v4, rfl, o4, e4'⟩
            obtain ⟨at', capt, hv4, A9⟩ := at_of_owns o4
            subst hv4
            clear o4
            have e13 : Below w.heap.size w w3 := e12b.trans (e4'.mono e12b.size)
            have A4' := ((((((A4.below e2).mono e2.size).below e3).mono e3.size).below e4').mono e4'.size)
            have A5' := ((((A5.below e3).mono e3.size).below e4').mono e4'.size)
            have A6' := (A6.below e4').mono e4'.size
            clear A4 A5 A6 i4 i5 i6 i9 e1 e2 e3 e4' e12 e12b
            go_wp2_with fail
            refine (put_wr w3.heap.size none 0 p 127 [] w3 (Wr.nil _ _) (Nat.le_refl _) (by omega) (by omega) (by simp; omega)).mono ?_
            rintro e w4 ⟨ao4, cap4, d4, rfl, W4, e4, H4⟩
            have hd4 : d4.length ≤ 7 := by rw [H4.out]; simp [bitsN_length]; omega
            have HP : Hid (d4.length = p) := (by rw [H4.out]; simp [bitsN_length] : d4.length = p)
            clear H4
            go_wp2_with fail
            refine (sn_wr w3.heap.size ao4 cap4 sst sd v l4 l5 l6 d4 pres ie sizes ai ap az capi capp capz hasSD long w4 W4 e4.size (A4'.below e4) (A5'.below e4) (A6'.below e4) HL4 HL5 HL6 h4 h5 h6 hs255 hy255 hst hsd hv (by omega)).mono ?_
            rintro e w5 ⟨ao5, cap5, d5, rfl, W5, e5, H5⟩
            have e35 := e4.trans e5
            have hlen5 : d5.length ≤ 840000 ∧ 1 ≤ d5.length := by
              rw [H5.out]
              have := wSn_len d4 sst hasSD sd ie pres sizes long v hs255 hy255
              have := HL4.out
              have := HL5.out
              omega
            obtain ⟨hlen5, hpos5⟩ := hlen5
            obtain ⟨n, hn1, hn2⟩ : ∃ n, 8 * n ≤ d5.length + 7 ∧ d5.length ≤ 8 * n := ⟨(d5.length + 7) / 8, by omega, by omega⟩
            clear A4' A5' A6' W4 e4 e5
            go_wp2_with fail
            refine (pack_wr ao5 cap5 n d5.length d5 w5 W5.at rfl (by omega) hn1 hn2).mono ?_
            rintro e w6 ⟨by', rfl, o6, P6, e6⟩
            have HBL : Hid (by'.length = n) := (by simpa using o6.1 : by'.length = n)
            have e36 : Below w3.heap.size w3 w6 := e35.trans (e6.mono e35.size)
            have hb0 : Wb w6 w5.heap.size (some ⟨w5.heap.size, 0, none⟩) n by' := by
              unfold Wb
              rw [HBL.out]
              exact o6
            clear o6 W5
            have HEnd : Hid (∀ (ys : List Nat) (t : List Nat), ys = by' ++ t → d5.length ≤ 8 * ys.length ∧ rSn (bitOf fun j => ys[j]?.getD 0) (8 * ys.length) (p, false) = (d5.length, false)) := by
              intro ys t hys
              have hyl : d5.length ≤ 8 * ys.length := by rw [hys, List.length_append, HBL.out]; omega
              refine ⟨hyl, ?_⟩
              have hag : Agree (bitOf fun j => ys[j]?.getD 0) (8 * ys.length) d5 := agree_pack P6 fun j _ hj => by
                rw [hys, List.getElem?_append_left (by rw [HBL.out]; omega)]
              have e5' := H5.out
              rw [e5'] at hag hyl ⊢
              have := sn_ends hag (by rw [HL5.out]; omega) (by rw [HL4.out]; omega) (fun z hz => by have := hs255 z hz; omega) (fun z hz => by have := hy255 z hz; omega) hyl
              rw [HP.out] at this
              exact this
            have H256 : Hid (∀ y ∈ by', y < 256) := P6.1
            clear P6 H5 HP hs255 hy255 b4 b6 hd4 HL4 HL5 HL6
            go_wp2
            go_loopw [25, 26] (fun s i wr => ∃ (k : Nat) (ao' : Option Addr) (cap' : Nat) (ys : List Nat), k ≤ l9 ∧ ys.length ≤ 110000 + k ∧ i = .int .i64 (k : Int) ∧ s = .slice ao' ys.length cap' ∧ Wb wr w5.heap.size ao' cap' ys ∧ Below w3.heap.size w3 wr ∧ w5.heap.size ≤ wr.heap.size ∧ Hid (ys = by' ++ tail.take k)) (fun _ i _ => l9 - (intOf i).toNat)
            case atStart => exact ⟨0, _, n, by', Nat.zero_le _, by rw [HBL.out]; omega, rfl, by rw [HBL.out], hb0, e36, e6.size, by show _ = _; simp⟩
            case round =>
              clear hb0 e36
              obtain ⟨j, ao', cap', ys, hj, hyl, rfl, rfl, hwb, hb3, hsz, HY⟩ := hrel
              by_cases hjl : j < l9
              · have hjt : j < tail.length := by rw [HL9.out]; exact hjl
                obtain ⟨gt, hat, hgt, hct⟩ := (A9.below hb3) j (u8v tail[j]) (by simp [List.getElem?_eq_getElem hjt])
                have HY2 : Hid (ys ++ [tail[j]] = by' ++ tail.take (j + 1)) := by
                  show _ = _
                  rw [HY.out, List.take_succ_eq_append_getElem hjt, List.append_assoc]
                clear HY A9
                generalize tail[j] = y at *
                subst hat
                unfold u8v at hct
                go_wp2_with (at_builtin; refine wpList_append_byte wr rfl _ _ rfl w5.heap.size ao' cap' ys y rfl hwb rfl (by omega) hsz ?_; intro ao2 cap2 w7 hw7 hb7)
                have hs7 := hb7.size
                have hb37 : Below w3.heap.size w3 w7 := hb3.trans (hb7.mono e35.size)
                go_roundw
                case rel => exact ⟨j + 1, ao2, cap2, ys ++ [y], by omega, by simp; omega, by go_num, by simp, hw7, hb37, by omega, HY2⟩
                case measure => simp [intOf]; omega
              · obtain ⟨hy8, hskip⟩ := HEnd.out ys _ HY.out
                have HSK : Hid (rSn (bitOf fun j => ys[j]?.getD 0) (8 * ys.length) (p, false) = (d5.length, false)) := hskip
                have hy256 : ∀ y ∈ ys, y < 256 := by
                  rw [HY.out]
                  intro y hy
                  rcases List.mem_append.1 hy with h | h
                  · exact H256.out y h
                  · exact b9 y (List.mem_of_mem_take h)
                have hypos : 1 ≤ ys.length := by
                  rw [HY.out, List.length_append, HBL.out]; omega
                obtain ⟨g, hgo⟩ := hwb.some hypos
                subst hgo
                obtain ⟨hRd, hg1, hg2⟩ := rd_new rfl hwb hy256 (by omega) p hp
                have hbw : Below w.heap.size w wr := e13.trans (hb3.mono e13.size)
                clear hskip HY HEnd hwb A9 hy256 b9 H256
                go_wp2_with fail
                refine (new_rd g ys.length cap' p wr).mono ?_
                rintro e w8 ⟨rfl, rfl⟩
                go_wp2_with fail
                refine (zzsn_rd wr.heap.size g ys.length cap' (p, false) _ _ hRd).mono ?_
                rintro e w9 ⟨rfl, R9, g9⟩
                rw [HSK.out] at R9
                go_wp2_with fail
                refine (state_rd wr.heap.size g ys.length cap' (d5.length, false) _ w9 R9).mono ?_
                rintro e w10 ⟨rfl, g10⟩
                go_wp2
                go_ret
                exact ⟨rfl, below_end hbw hbw.size rfl g9 g10⟩

set_option maxRecDepth 100000 in
set_option maxHeartbeats 1000000 in
/-- THE LAW: on every input the call returns true. -/
theorem fn8_walk (p sst sd v : Nat) (a4 a5 a6 a9 : Option Addr) (l4 c4 l5 c5 l6 c6 l9 c9 : Nat) (hasSD long : Bool) (ie : List Nat) (pres : List Bool) (sizes tail : List Nat) (w : World)
    (i4 : Came w a4 l4 (ie.map u16v)) (i5 : Came w a5 l5 (pres.map Value.bool)) (i6 : Came w a6 l6 (sizes.map u16v)) (i9 : Came w a9 l9 (tail.map u8v)) (hp : p < 256) (hst : sst < 256) (hsd : sd < 4294967296) (hv : v < 256) (b4 : ∀ z ∈ ie, z < 65536) (b6 : ∀ z ∈ sizes, z < 65536) (b9 : ∀ y ∈ tail, y < 256) (m4 : l4 ≤ 9223372036854775807) (m5 : l5 ≤ 9223372036854775807) (m6 : l6 ≤ 9223372036854775807) (m9 : l9 ≤ 9223372036854775807) :
    Calls Try.prog 8 #[.int .u8 (p : Int), .int .u8 (sst : Int), .bool hasSD, .int .u32 (sd : Int), .slice a4 l4 c4, .slice a5 l5 c5, .slice a6 l6 c6, .bool long, .int .u8 (v : Int), .slice a9 l9 c9] w fun e w' => e = .returned (.bool true) ∧ Below w.heap.size w w' := by
  by_cases h : l4 ≤ 200 ∧ l5 ≤ 200 ∧ l6 ≤ 200 ∧ l9 ≤ 4096 ∧ p ≤ 7
  · exact fn8_main p sst sd v a4 a5 a6 a9 l4 c4 l5 c5 l6 c6 l9 c9 hasSD long ie pres sizes tail w i4 i5 i6 i9 h.2.2.2.2 hst hsd hv b4 b6 b9 h.1 h.2.1 h.2.2.1 h.2.2.2.1
  · have hB := bytes27 p sst sd v a4 a5 a6 a9 l4 c4 l5 c5 l6 c6 l9 c9 hasSD long w m4 m5 m6 m9
    clear i4 i5 i6 i9 b4 b6 b9
    by_cases k4 : l4 ≤ 200
    · have t4 : decide ((200 : Int) < (l4 : Int)) = false := by simp; omega
      by_cases k5 : l5 ≤ 200
      · have t5 : decide ((200 : Int) < (l5 : Int)) = false := by simp; omega
        by_cases k6 : l6 ≤ 200
        · have t6 : decide ((200 : Int) < (l6 : Int)) = false := by simp; omega
          by_cases k9 : l9 ≤ 4096
          · have t9 : decide ((4096 : Int) < (l9 : Int)) = false := by simp; omega
            by_cases kp : p ≤ 7
            · omega
            · have tp : decide ((7 : Int) < (p : Int)) = true := by simp; omega
              go_enter Try.func8, Try.ntmps8
              go_wp2_with (go_at_call 27; refine hB.mono ?_; rintro e w' ⟨b, rfl, rfl⟩; cases b)
              all_goals
                go_ret
                exact ⟨rfl, Below.refl _ _⟩
          · have t9 : decide ((4096 : Int) < (l9 : Int)) = true := by simp; omega
            go_enter Try.func8, Try.ntmps8
            go_wp2_with (go_at_call 27; refine hB.mono ?_; rintro e w' ⟨b, rfl, rfl⟩; cases b)
            all_goals
              go_ret
              exact ⟨rfl, Below.refl _ _⟩
        · have t6 : decide ((200 : Int) < (l6 : Int)) = true := by simp; omega
          go_enter Try.func8, Try.ntmps8
          go_wp2_with (go_at_call 27; refine hB.mono ?_; rintro e w' ⟨b, rfl, rfl⟩; cases b)
          all_goals
            go_ret
            exact ⟨rfl, Below.refl _ _⟩
      · have t5 : decide ((200 : Int) < (l5 : Int)) = true := by simp; omega
        go_enter Try.func8, Try.ntmps8
        go_wp2_with (go_at_call 27; refine hB.mono ?_; rintro e w' ⟨b, rfl, rfl⟩; cases b)
        all_goals
          go_ret
          exact ⟨rfl, Below.refl _ _⟩
    · have t4 : decide ((200 : Int) < (l4 : Int)) = true := by simp; omega
      go_enter Try.func8, Try.ntmps8
      go_wp2_with (go_at_call 27; refine hB.mono ?_; rintro e w' ⟨b, rfl, rfl⟩; cases b)
      all_goals
        go_ret
        exact ⟨rfl, Below.refl _ _⟩
end Go.Proofs.Qxb6002696a
