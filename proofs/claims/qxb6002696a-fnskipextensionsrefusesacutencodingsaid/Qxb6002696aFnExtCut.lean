/- 'FnSkipExtensionsRefusesACutEncoding' (6): the walk. -/
import Derived.Test.Qxb6002696aFnExtEnds
namespace Go.Proofs.Qxb6002696a
open Go.RowKit
set_option linter.unusedVariables false

set_option maxHeartbeats 1000000 in
theorem bytes25 (p v c : Nat) (a1 a2 : Option Addr) (l1 c1 l2 c2 : Nat) (long : Bool) (w : World) (h1 : l1 ≤ 9223372036854775807) (h2 : l2 ≤ 9223372036854775807) :
    Calls Try.prog 25 #[.int .u8 (p : Int), .slice a1 l1 c1, .slice a2 l2 c2, .bool long, .int .u8 (v : Int), .int .u32 (c : Int)] w fun e w' => ∃ b, e = .returned (.bool b) ∧ w = w' := by
  go_enter Try.func25, Try.ntmps25
  go_wp2
  all_goals
    go_ret
    exact ⟨_, rfl, rfl⟩

set_option maxRecDepth 100000 in
set_option maxHeartbeats 2000000 in
/-- The main way: all bounds hold. -/
theorem fn6_main (p v c : Nat) (a1 a2 : Option Addr) (l1 c1 l2 c2 : Nat) (long : Bool) (pres : List Bool) (sizes : List Nat) (w : World)
    (i1 : Came w a1 l1 (pres.map Value.bool)) (i2 : Came w a2 l2 (sizes.map u16v)) (hp : p ≤ 7) (hv : v < 256) (hcu : c < 4294967296) (b16 : ∀ z ∈ sizes, z < 65536)
    (h1 : l1 ≤ 200) (h10 : 1 ≤ l1) (h2 : l2 ≤ 200) :
    Calls Try.prog 6 #[.int .u8 (p : Int), .slice a1 l1 c1, .slice a2 l2 c2, .bool long, .int .u8 (v : Int), .int .u32 (c : Int)] w fun e w' => e = .returned (.bool true) ∧ Below w.heap.size w w' := by
  have t1 : decide ((200 : Int) < (l1 : Int)) = false := by simp; omega
  have t2 : decide ((200 : Int) < (l2 : Int)) = false := by simp; omega
  have tp : decide ((7 : Int) < (p : Int)) = false := by simp; omega
  have t0 : (((l1 : Nat) : Int) == 0) = false := by rw [beq_eq_false_iff_ne]; omega
  have HL1 : Hid (pres.length = l1) := (by simpa using i1.1 : pres.length = l1)
  have HL2 : Hid (sizes.length = l2) := (by simpa using i2.1 : sizes.length = l2)
  have in2 := i2.inAt
  go_enter Try.func6, Try.ntmps6
  go_wp2_with fail
  refine (bytes25 p v c a1 a2 l1 c1 l2 c2 long w (by omega) (by omega)).mono ?_
  rintro e w' ⟨b, rfl, rfl⟩
  cases b
  · go_wp2
    go_ret
    exact ⟨rfl, Below.refl _ _⟩
  · go_wp2
    go_loop [13] (fun i => ∃ k : Nat, k ≤ l2 ∧ i = .int .i64 (k : Int) ∧ Small sizes k) (fun i => l2 - (intOf i).toNat)
    case atStart => exact ⟨0, Nat.zero_le _, rfl, fun i z hi => by omega⟩
    case round =>
      obtain ⟨k, hk, rfl, hsm⟩ := hrel
      by_cases hlt : k < l2
      · have hks : k < sizes.length := by rw [HL2.out]; exact hlt
        obtain ⟨x, hax, hcx⟩ := in2 k (u16v sizes[k]) (by simp [List.getElem?_eq_getElem hks])
        have HZ : Hid (sizes[k]? = some sizes[k]) := List.getElem?_eq_getElem hks
        have hzb := b16 sizes[k] (List.getElem_mem hks)
        generalize sizes[k] = z at *
        subst hax
        unfold u16v at hcx
        by_cases hz : z ≤ 255
        · have HS : Hid (Small sizes (k + 1)) := hsm.succ HZ.out hz
          clear hsm HZ
          go_wp2
          go_round
          case rel => exact ⟨k + 1, by omega, by go_num, HS.out⟩
          case measure => simp [intOf]; omega
        · clear hsm HZ
          go_wp2
          go_ret
          exact ⟨rfl, Below.refl _ _⟩
      · have hs255 := hsm.all (by rw [HL2.out]; omega)
        clear hsm in2
        go_wp2_with fail
        refine (clone16 a1 l1 c1 _ w i1 (by omega) (by intro u hu; obtain ⟨z, _, rfl⟩ := List.mem_map.1 hu; exact ⟨z, rfl⟩)).mono ?_
        rintro e w1 ⟨v1, rfl, o1, e1⟩
        obtain ⟨ap, capp, hv1, A1⟩ := at_of_owns o1
        subst hv1
        clear o1
        go_wp2_with fail
        refine (clone17 a2 l2 c2 _ w1 (i2.below e1) (by omega) (by intro u hu; obtain ⟨z, _, rfl⟩ := List.mem_map.1 hu; exact ⟨_, rfl⟩)).mono ?_
        rintro e w3 ⟨v2, rfl, o2, e2⟩
        obtain ⟨az, capz, hv2, A2'⟩ := at_of_owns o2
        subst hv2
        clear o2
        have e13 : Below w.heap.size w w3 := e1.trans (e2.mono e1.size)
        have A1' := (A1.below e2).mono e2.size
        clear A1 i1 i2 e1 e2
        go_wp2_with fail
        refine (put_wr w3.heap.size none 0 p 127 [] w3 (Wr.nil _ _) (Nat.le_refl _) (by omega) (by omega) (by simp; omega)).mono ?_
        rintro e w4 ⟨ao4, cap4, d4, rfl, W4, e4, H4⟩
        have hd4 : d4.length ≤ 7 := by rw [H4.out]; simp [bitsN_length]; omega
        have HP : Hid (d4.length = p) := (by rw [H4.out]; simp [bitsN_length] : d4.length = p)
        clear H4
        go_wp2_with fail
        refine (ext_wr' w3.heap.size ao4 cap4 v l1 l2 d4 pres sizes ap az capp capz long w4 W4 e4.size (A1'.below e4) (A2'.below e4) HL1 HL2 h10 h1 h2 hs255 hv (by omega)).mono ?_
        rintro e w5 ⟨ao5, cap5, d5, rfl, W5, e5, H5⟩
        have e35 := e4.trans e5
        have hlen5 : d5.length ≤ 413000 := by
          rw [H5.out]
          have := wExt_len d4 pres sizes long v hs255
          have := HL1.out
          omega
        obtain ⟨n, hn1, hn2⟩ : ∃ n, 8 * n ≤ d5.length + 7 ∧ d5.length ≤ 8 * n := ⟨(d5.length + 7) / 8, by omega, by omega⟩
        clear A1' A2' W4 e4 e5
        go_wp2_with fail
        refine (pack_wr ao5 cap5 n d5.length d5 w5 W5.at rfl (by omega) hn1 hn2).mono ?_
        rintro e w6 ⟨by', rfl, o6, P6, e6⟩
        have HBL : Hid (by'.length = n) := (by simpa using o6.1 : by'.length = n)
        have e36 : Below w3.heap.size w3 w6 := e35.trans (e6.mono e35.size)
        have e16 : Below w.heap.size w w6 := e13.trans (e36.mono e13.size)
        by_cases hcn : c < n
        · have HEnd : Hid ((rSkip (bitOf fun j => (by'.take c)[j]?.getD 0) (8 * c) (p, false)).2 = true) := by
            show _ = true
            have hag : Agree (bitOf fun j => (by'.take c)[j]?.getD 0) (8 * c) d5 := agree_pack P6 fun j hj1 hj2 => by
              rw [List.getElem?_take, if_pos (by omega)]
            have hlt : 8 * c < d5.length := by omega
            have e5' := H5.out
            rw [e5'] at hag hlt
            have := ext_cut hag (by rw [HL1.out]; exact h10) (by rw [HL1.out]; omega) (fun z hz => by have := hs255 z hz; omega) hlt
            rw [HP.out] at this
            exact this
          have H256 : Hid (∀ y ∈ by'.take c, y < 256) := fun y hy => P6.1 y (List.mem_of_mem_take hy)
          have HTL : Hid ((by'.take c).length = c) := (by rw [List.length_take, HBL.out]; omega : (by'.take c).length = c)
          have HC : Hid (∀ j u, ((by'.take c).map u8v)[j]? = some u → w6.cell? ((⟨w5.heap.size, 0, none⟩ : Addr).add j) = some u) := by
            intro j u hj
            have hjl := (List.getElem?_eq_some_iff.1 hj).1
            rw [List.length_map, HTL.out] at hjl
            rw [List.map_take, List.getElem?_take, if_pos hjl] at hj
            have := o6.cellAt j (by omega)
            rw [hj] at this
            rw [Addr.add_lit, Nat.zero_add]
            exact this
          have hcn' : (c : Int) < (n : Int) := by omega
          clear P6 H5 HP hs255 b16 hd4 HL1 HL2 o6 W5
          go_wp2_with fail
          refine (clone18_some ⟨w5.heap.size, 0, none⟩ c n _ w6 (by rw [List.length_map, HTL.out]) HC.out (by omega) (by intro u hu; obtain ⟨z, _, rfl⟩ := List.mem_map.1 hu; exact ⟨_, rfl⟩)).mono ?_
          rintro e w7 ⟨rfl, o7, e7⟩
          obtain ⟨hRd, hg1, hg2⟩ := rd_new HTL.out o7 H256.out (by omega) p hp
          have e17 : Below w.heap.size w w7 := e16.trans (e7.mono e16.size)
          clear o7 HC HTL H256 HBL
          go_wp2_with fail
          refine (new_rd w6.heap.size c c p w7).mono ?_
          rintro e w8 ⟨rfl, rfl⟩
          go_wp2_with fail
          refine (zzskip_rd w7.heap.size w6.heap.size c c (p, false) _ _ hRd).mono ?_
          rintro e w9 ⟨rfl, R9, g9⟩
          generalize rSkip (bitOf fun j => (by'.take c)[j]?.getD 0) (8 * c) (p, false) = s at *
          obtain ⟨q, sb⟩ := s
          have hsb : sb = true := HEnd.out
          subst hsb
          go_wp2_with fail
          refine (state_rd w7.heap.size w6.heap.size c c (q, true) _ w9 R9).mono ?_
          rintro e w10 ⟨rfl, g10⟩
          go_wp2
          go_ret
          exact ⟨rfl, below_end e17 e17.size rfl g9 g10⟩
        · clear P6 H5 HP hs255 b16 hd4 HL1 HL2 o6 W5
          go_wp2
          go_ret
          exact ⟨rfl, e16⟩

set_option maxRecDepth 100000 in
set_option maxHeartbeats 1000000 in
/-- THE LAW: on every input the call returns true. -/
theorem fn6_walk (p v c : Nat) (a1 a2 : Option Addr) (l1 c1 l2 c2 : Nat) (long : Bool) (pres : List Bool) (sizes : List Nat) (w : World)
    (i1 : Came w a1 l1 (pres.map Value.bool)) (i2 : Came w a2 l2 (sizes.map u16v)) (hp : p < 256) (hv : v < 256) (hcu : c < 4294967296) (b16 : ∀ z ∈ sizes, z < 65536)
    (m1 : l1 ≤ 9223372036854775807) (m2 : l2 ≤ 9223372036854775807) :
    Calls Try.prog 6 #[.int .u8 (p : Int), .slice a1 l1 c1, .slice a2 l2 c2, .bool long, .int .u8 (v : Int), .int .u32 (c : Int)] w fun e w' => e = .returned (.bool true) ∧ Below w.heap.size w w' := by
  by_cases h : l1 ≤ 200 ∧ l2 ≤ 200 ∧ p ≤ 7 ∧ 1 ≤ l1
  · exact fn6_main p v c a1 a2 l1 c1 l2 c2 long pres sizes w i1 i2 h.2.2.1 hv hcu b16 h.1 h.2.2.2 h.2.1
  · have hB := bytes25 p v c a1 a2 l1 c1 l2 c2 long w m1 m2
    clear i1 i2 b16
    by_cases k1 : l1 ≤ 200
    · have t1 : decide ((200 : Int) < (l1 : Int)) = false := by simp; omega
      by_cases k2 : l2 ≤ 200
      · have t2 : decide ((200 : Int) < (l2 : Int)) = false := by simp; omega
        by_cases kp : p ≤ 7
        · obtain rfl : l1 = 0 := by omega
          have tp : decide ((7 : Int) < (p : Int)) = false := by simp; omega
          go_enter Try.func6, Try.ntmps6
          go_wp2_with (go_at_call 25; refine hB.mono ?_; rintro e w' ⟨b, rfl, rfl⟩; cases b)
          all_goals
            go_ret
            exact ⟨rfl, Below.refl _ _⟩
        · have tp : decide ((7 : Int) < (p : Int)) = true := by simp; omega
          go_enter Try.func6, Try.ntmps6
          go_wp2_with (go_at_call 25; refine hB.mono ?_; rintro e w' ⟨b, rfl, rfl⟩; cases b)
          all_goals
            go_ret
            exact ⟨rfl, Below.refl _ _⟩
      · have t2 : decide ((200 : Int) < (l2 : Int)) = true := by simp; omega
        go_enter Try.func6, Try.ntmps6
        go_wp2_with (go_at_call 25; refine hB.mono ?_; rintro e w' ⟨b, rfl, rfl⟩; cases b)
        all_goals
          go_ret
          exact ⟨rfl, Below.refl _ _⟩
    · have t1 : decide ((200 : Int) < (l1 : Int)) = true := by simp; omega
      go_enter Try.func6, Try.ntmps6
      go_wp2_with (go_at_call 25; refine hB.mono ?_; rintro e w' ⟨b, rfl, rfl⟩; cases b)
      all_goals
        go_ret
        exact ⟨rfl, Below.refl _ _⟩
end Go.Proofs.Qxb6002696a
