/- 'FnSkipSNSSAIRefusesACutEncoding' (9): the walk. -/
import Derived.Test.Qxb6002696aSnKit
namespace Go.Proofs.Qxb6002696a
open Go.RowKit
set_option linter.unusedVariables false

set_option maxHeartbeats 2000000 in
theorem bytes30 (p sst sd v c : Nat) (a4 a5 a6 : Option Addr) (l4 c4 l5 c5 l6 c6 : Nat) (hasSD long : Bool) (w : World) (m4 : l4 ≤ 9223372036854775807) (m5 : l5 ≤ 9223372036854775807) (m6 : l6 ≤ 9223372036854775807) :
    Calls Try.prog 30 #[.int .u8 (p : Int), .int .u8 (sst : Int), .bool hasSD, .int .u32 (sd : Int), .slice a4 l4 c4, .slice a5 l5 c5, .slice a6 l6 c6, .bool long, .int .u8 (v : Int), .int .u32 (c : Int)] w fun e w' => ∃ b, e = .returned (.bool b) ∧ w = w' := by
  go_enter Try.func30, Try.ntmps30
  go_wp2
  all_goals
    go_ret
    exact ⟨_, rfl, rfl⟩

set_option maxRecDepth 100000 in
set_option maxHeartbeats 4000000 in
/-- The main way: all bounds hold. -/
theorem fn9_main (p sst sd v c : Nat) (a4 a5 a6 : Option Addr) (l4 c4 l5 c5 l6 c6 : Nat) (hasSD long : Bool) (ie : List Nat) (pres : List Bool) (sizes : List Nat) (w : World)
    (i4 : Came w a4 l4 (ie.map u16v)) (i5 : Came w a5 l5 (pres.map Value.bool)) (i6 : Came w a6 l6 (sizes.map u16v)) (hp : p ≤ 7) (hst : sst < 256) (hsd : sd < 4294967296) (hv : v < 256) (hcu : c < 4294967296) (b4 : ∀ z ∈ ie, z < 65536) (b6 : ∀ z ∈ sizes, z < 65536) (h4 : l4 ≤ 200) (h5 : l5 ≤ 200) (h6 : l6 ≤ 200) :
    Calls Try.prog 9 #[.int .u8 (p : Int), .int .u8 (sst : Int), .bool hasSD, .int .u32 (sd : Int), .slice a4 l4 c4, .slice a5 l5 c5, .slice a6 l6 c6, .bool long, .int .u8 (v : Int), .int .u32 (c : Int)] w fun e w' => e = .returned (.bool true) ∧ Below w.heap.size w w' := by
  have t4 : decide ((200 : Int) < (l4 : Int)) = false := by simp; omega
  have t5 : decide ((200 : Int) < (l5 : Int)) = false := by simp; omega
  have t6 : decide ((200 : Int) < (l6 : Int)) = false := by simp; omega
  have tp : decide ((7 : Int) < (p : Int)) = false := by simp; omega
  have HL4 : Hid (ie.length = l4) := (by simpa using i4.1 : ie.length = l4)
  have HL5 : Hid (pres.length = l5) := (by simpa using i5.1 : pres.length = l5)
  have HL6 : Hid (sizes.length = l6) := (by simpa using i6.1 : sizes.length = l6)
  have in4 := i4.inAt
  have in6 := i6.inAt
  go_enter Try.func9, Try.ntmps9
  go_wp2_with fail
  refine (bytes30 p sst sd v c a4 a5 a6 l4 c4 l5 c5 l6 c6 hasSD long w (by omega) (by omega) (by omega)).mono ?_
  rintro e w' ⟨b, rfl, rfl⟩
  cases b
  · go_wp2
    go_ret
    exact ⟨rfl, Below.refl _ _⟩
  · go_wp2
    go_loop [21] (fun i => ∃ k : Nat, k ≤ l4 ∧ i = .int .i64 (k : Int) ∧ Small ie k) (fun i => l4 - (intOf i).toNat)
    case atStart => exact ⟨0, Nat.zero_le _, rfl, fun i z hi => by omega⟩
    case round =>
      obtain ⟨k, hk, rfl, hsm⟩ := hrel
      by_cases hlt : k < l4
      · have hks : k < ie.length := by rw [HL4.out]; exact hlt
        obtain ⟨x, hax, hcx⟩ := in4 k (u16v ie[k]) (by simp [List.getElem?_eq_getElem hks])
        have HZ : Hid (ie[k]? = some ie[k]) := List.getElem?_eq_getElem hks
        have hzb := b4 ie[k] (List.getElem_mem hks)
        generalize ie[k] = z at *
        subst hax
        unfold u16v at hcx
        by_cases hz : z ≤ 255
        · have HS : Hid (Small ie (k + 1)) := hsm.succ HZ.out hz
          clear hsm HZ
          go_wp2
          go_round
          case rel => exact ⟨k + 1, by omega, by go_num, HS.out⟩
          case measure => simp [intOf]; omega
        · clear hsm HZ
          go_wp2
          go_ret
          exact ⟨rfl, Below.refl _ _⟩
      · have hy255 := hsm.all (by rw [HL4.out]; omega)
        clear hsm in4
        go_wp2
        go_loop [22] (fun i => ∃ m : Nat, m ≤ l6 ∧ i = .int .i64 (m : Int) ∧ Small sizes m) (fun i => l6 - (intOf i).toNat)
        case atStart => exact ⟨0, Nat.zero_le _, rfl, fun i z hi => by omega⟩
        case round =>
          obtain ⟨m, hm, rfl, hsm⟩ := hrel
          by_cases hmt : m < l6
          · have hks : m < sizes.length := by rw [HL6.out]; exact hmt
            obtain ⟨x, hax, hcx⟩ := in6 m (u16v sizes[m]) (by simp [List.getElem?_eq_getElem hks])
            have HZ : Hid (sizes[m]? = some sizes[m]) := List.getElem?_eq_getElem hks
            have hzb := b6 sizes[m] (List.getElem_mem hks)
            generalize sizes[m] = z at *
            subst hax
            unfold u16v at hcx
            by_cases hz : z ≤ 255
            · have HS : Hid (Small sizes (m + 1)) := hsm.succ HZ.out hz
              clear hsm HZ
              go_wp2
              go_round
              case rel => exact ⟨m + 1, by omega, by go_num, HS.out⟩
              case measure => simp [intOf]; omega
            · clear hsm HZ
              go_wp2
              go_ret
              exact ⟨rfl, Below.refl _ _⟩
          · have hs255 := hsm.all (by rw [HL6.out]; omega)
            clear hsm in6
            go_wp2_with fail
            refine (clone17 a4 l4 c4 _ w i4 (by omega) (by intro u hu; obtain ⟨z, _, rfl⟩ := List.mem_map.1 hu; exact ⟨_, rfl⟩)).mono ?_
            rintro e w1 ⟨v1, rfl, o1, e1⟩
            obtain ⟨ai, capi, hv1, A4⟩ := at_of_owns o1
            subst hv1
            clear o1
            go_wp2_with fail
            refine (clone16 a5 l5 c5 _ w1 (i5.below e1) (by omega) (by intro u hu; obtain ⟨z, _, rfl⟩ := List.mem_map.1 hu; exact ⟨z, rfl⟩)).mono ?_
            rintro e w2 ⟨v2, rfl, o2, e2⟩
            obtain ⟨ap, capp, hv2, A5⟩ := at_of_owns o2
            subst hv2
            clear o2
            have e12 : Below w.heap.size w w2 := e1.trans (e2.mono e1.size)
            go_wp2_with fail
            refine (clone17 a6 l6 c6 _ w2 (i6.below e12) (by omega) (by intro u hu; obtain ⟨z, _, rfl⟩ := List.mem_map.1 hu; exact ⟨_, rfl⟩)).mono ?_
            rintro e w3 ⟨v3, rfl, o3, e3⟩
            obtain ⟨az, capz, hv3, A6⟩ := at_of_owns o3
            subst hv3
            clear o3
            have e13 : Below w.heap.size w w3 := e12.trans (e3.mono e12.size)
            have A4' := ((((A4.below e2).mono e2.size).below e3).mono e3.size)
            have A5' := (A5.below e3).mono e3.size
            have A6' := A6
            clear A4 A5 A6 i4 i5 i6 e1 e2 e3 e12
            go_wp2_with fail
            refine (put_wr w3.heap.size none 0 p 127 [] w3 (Wr.nil _ _) (Nat.le_refl _) (by omega) (by omega) (by simp; omega)).mono ?_
            rintro e w4 ⟨ao4, cap4, d4, rfl, W4, e4, H4⟩
            have hd4 : d4.length ≤ 7 := by rw [H4.out]; simp [bitsN_length]; omega
            have HP : Hid (d4.length = p) := (by rw [H4.out]; simp [bitsN_length] : d4.length = p)
            clear H4
            go_wp2_with fail
            refine (sn_wr w3.heap.size ao4 cap4 sst sd v l4 l5 l6 d4 pres ie sizes ai ap az capi capp capz hasSD long w4 W4 e4.size (A4'.below e4) (A5'.below e4) (A6'.below e4) HL4 HL5 HL6 h4 h5 h6 hs255 hy255 hst hsd hv (by omega)).mono ?_
            rintro e w5 ⟨ao5, cap5, d5, rfl, W5, e5, H5⟩
            have e35 := e4.trans e5
            have hlen5 : d5.length ≤ 840000 ∧ 1 ≤ d5.length := by
              rw [H5.out]
              have := wSn_len d4 sst hasSD sd ie pres sizes long v hs255 hy255
              have := HL4.out
              have := HL5.out
              omega
            obtain ⟨hlen5, hpos5⟩ := hlen5
            obtain ⟨n, hn1, hn2⟩ : ∃ n, 8 * n ≤ d5.length + 7 ∧ d5.length ≤ 8 * n := ⟨(d5.length + 7) / 8, by omega, by omega⟩
            clear A4' A5' A6' W4 e4 e5
            go_wp2_with fail
            refine (pack_wr ao5 cap5 n d5.length d5 w5 W5.at rfl (by omega) hn1 hn2).mono ?_
            rintro e w6 ⟨by', rfl, o6, P6, e6⟩
            have HBL : Hid (by'.length = n) := (by simpa using o6.1 : by'.length = n)
            have e36 : Below w3.heap.size w3 w6 := e35.trans (e6.mono e35.size)
            have e16 : Below w.heap.size w w6 := e13.trans (e36.mono e13.size)
            by_cases hcn : c < n
            · have HEnd : Hid ((rSn (bitOf fun j => (by'.take c)[j]?.getD 0) (8 * c) (p, false)).2 = true) := by
                show _ = true
                have hag : Agree (bitOf fun j => (by'.take c)[j]?.getD 0) (8 * c) d5 := agree_pack P6 fun j hj1 hj2 => by
                  rw [List.getElem?_take, if_pos (by omega)]
                have hlt : 8 * c < d5.length := by omega
                have e5' := H5.out
                rw [e5'] at hag hlt
                have := sn_cut hag (by rw [HL5.out]; omega) (by rw [HL4.out]; omega) (fun z hz => by have := hs255 z hz; omega) (fun z hz => by have := hy255 z hz; omega) hlt
                rw [HP.out] at this
                exact this
              have H256 : Hid (∀ y ∈ by'.take c, y < 256) := fun y hy => P6.1 y (List.mem_of_mem_take hy)
              have HTL : Hid ((by'.take c).length = c) := (by rw [List.length_take, HBL.out]; omega : (by'.take c).length = c)
              have HC : Hid (∀ j u, ((by'.take c).map u8v)[j]? = some u → w6.cell? ((⟨w5.heap.size, 0, none⟩ : Addr).add j) = some u) := by
                intro j u hj
                have hjl := (List.getElem?_eq_some_iff.1 hj).1
                rw [List.length_map, HTL.out] at hjl
                rw [List.map_take, List.getElem?_take, if_pos hjl] at hj
                have := o6.cellAt j (by omega)
                rw [hj] at this
                rw [Addr.add_lit, Nat.zero_add]
                exact this
              have hcn' : (c : Int) < (n : Int) := by omega
              clear P6 H5 HP hs255 hy255 b4 b6 hd4 HL4 HL5 HL6 o6 W5
              go_wp2_with fail
              refine (clone18_some ⟨w5.heap.size, 0, none⟩ c n _ w6 (by rw [List.length_map, HTL.out]) HC.out (by omega) (by intro u hu; obtain ⟨z, _, rfl⟩ := List.mem_map.1 hu; exact ⟨_, rfl⟩)).mono ?_
              rintro e w7 ⟨rfl, o7, e7⟩
              obtain ⟨hRd, hg1, hg2⟩ := rd_new HTL.out o7 H256.out (by omega) p hp
              have e17 : Below w.heap.size w w7 := e16.trans (e7.mono e16.size)
              clear o7 HC HTL H256 HBL
              go_wp2_with fail
              refine (new_rd w6.heap.size c c p w7).mono ?_
              rintro e w8 ⟨rfl, rfl⟩
              go_wp2_with fail
              refine (zzsn_rd w7.heap.size w6.heap.size c c (p, false) _ _ hRd).mono ?_
              rintro e w9 ⟨rfl, R9, g9⟩
              generalize rSn (bitOf fun j => (by'.take c)[j]?.getD 0) (8 * c) (p, false) = s at *
              obtain ⟨q, sb⟩ := s
              have hsb : sb = true := HEnd.out
              subst hsb
              go_wp2_with fail
              refine (state_rd w7.heap.size w6.heap.size c c (q, true) _ w9 R9).mono ?_
              rintro e w10 ⟨rfl, g10⟩
              go_wp2
              go_ret
              exact ⟨rfl, below_end e17 e17.size rfl g9 g10⟩
            · clear P6 H5 HP hs255 hy255 b4 b6 hd4 HL4 HL5 HL6 o6 W5
              go_wp2
              go_ret
              exact ⟨rfl, e16⟩

set_option maxRecDepth 100000 in
set_option maxHeartbeats 1000000 in
/-- THE LAW: on every input the call returns true. -/
theorem fn9_walk (p sst sd v c : Nat) (a4 a5 a6 : Option Addr) (l4 c4 l5 c5 l6 c6 : Nat) (hasSD long : Bool) (ie : List Nat) (pres : List Bool) (sizes : List Nat) (w : World)
    (i4 : Came w a4 l4 (ie.map u16v)) (i5 : Came w a5 l5 (pres.map Value.bool)) (i6 : Came w a6 l6 (sizes.map u16v)) (hp : p < 256) (hst : sst < 256) (hsd : sd < 4294967296) (hv : v < 256) (hcu : c < 4294967296) (b4 : ∀ z ∈ ie, z < 65536) (b6 : ∀ z ∈ sizes, z < 65536) (m4 : l4 ≤ 9223372036854775807) (m5 : l5 ≤ 9223372036854775807) (m6 : l6 ≤ 9223372036854775807) :
    Calls Try.prog 9 #[.int .u8 (p : Int), .int .u8 (sst : Int), .bool hasSD, .int .u32 (sd : Int), .slice a4 l4 c4, .slice a5 l5 c5, .slice a6 l6 c6, .bool long, .int .u8 (v : Int), .int .u32 (c : Int)] w fun e w' => e = .returned (.bool true) ∧ Below w.heap.size w w' := by
  by_cases h : l4 ≤ 200 ∧ l5 ≤ 200 ∧ l6 ≤ 200 ∧ p ≤ 7
  · exact fn9_main p sst sd v c a4 a5 a6 l4 c4 l5 c5 l6 c6 hasSD long ie pres sizes w i4 i5 i6 h.2.2.2 hst hsd hv hcu b4 b6 h.1 h.2.1 h.2.2.1
  · have hB := bytes30 p sst sd v c a4 a5 a6 l4 c4 l5 c5 l6 c6 hasSD long w m4 m5 m6
    clear i4 i5 i6 b4 b6
    by_cases k4 : l4 ≤ 200
    · have t4 : decide ((200 : Int) < (l4 : Int)) = false := by simp; omega
      by_cases k5 : l5 ≤ 200
      · have t5 : decide ((200 : Int) < (l5 : Int)) = false := by simp; omega
        by_cases k6 : l6 ≤ 200
        · have t6 : decide ((200 : Int) < (l6 : Int)) = false := by simp; omega
          by_cases kp : p ≤ 7
          · omega
          · have tp : decide ((7 : Int) < (p : Int)) = true := by simp; omega
            go_enter Try.func9, Try.ntmps9
            go_wp2_with (go_at_call 30; refine hB.mono ?_; rintro e w' ⟨b, rfl, rfl⟩; cases b)
            all_goals
              go_ret
              exact ⟨rfl, Below.refl _ _⟩
        · have t6 : decide ((200 : Int) < (l6 : Int)) = true := by simp; omega
          go_enter Try.func9, Try.ntmps9
          go_wp2_with (go_at_call 30; refine hB.mono ?_; rintro e w' ⟨b, rfl, rfl⟩; cases b)
          all_goals
            go_ret
            exact ⟨rfl, Below.refl _ _⟩
      · have t5 : decide ((200 : Int) < (l5 : Int)) = true := by simp; omega
        go_enter Try.func9, Try.ntmps9
        go_wp2_with (go_at_call 30; refine hB.mono ?_; rintro e w' ⟨b, rfl, rfl⟩; cases b)
        all_goals
          go_ret
          exact ⟨rfl, Below.refl _ _⟩
    · have t4 : decide ((200 : Int) < (l4 : Int)) = true := by simp; omega
      go_enter Try.func9, Try.ntmps9
      go_wp2_with (go_at_call 30; refine hB.mono ?_; rintro e w' ⟨b, rfl, rfl⟩; cases b)
      all_goals
        go_ret
        exact ⟨rfl, Below.refl _ _⟩
end Go.Proofs.Qxb6002696a
