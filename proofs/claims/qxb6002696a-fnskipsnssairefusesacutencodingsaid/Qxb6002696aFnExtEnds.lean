/- 'FnSkipExtensionsEndsAtItsEncoding' (5): the walk. -/
import Derived.Test.Qxb6002696aLawKit
namespace Go.Proofs.Qxb6002696a
open Go.RowKit
set_option linter.unusedVariables false

set_option maxHeartbeats 1000000 in
theorem bytes15 (p v : Nat) (a1 a2 a5 : Option Addr) (l1 c1 l2 c2 l5 c5 : Nat) (long : Bool) (w : World) (h1 : l1 ≤ 9223372036854775807) (h2 : l2 ≤ 9223372036854775807) (h5 : l5 ≤ 9223372036854775807) :
    Calls Try.prog 15 #[.int .u8 (p : Int), .slice a1 l1 c1, .slice a2 l2 c2, .bool long, .int .u8 (v : Int), .slice a5 l5 c5] w fun e w' => ∃ b, e = .returned (.bool b) ∧ w = w' := by
  go_enter Try.func15, Try.ntmps15
  go_wp2
  all_goals
    go_ret
    exact ⟨_, rfl, rfl⟩

/-- What the sizes' loop has seen so far. -/
def Small (zs : List Nat) (k : Nat) : Prop := ∀ i z, i < k → zs[i]? = some z → z ≤ 255
theorem Small.succ {zs : List Nat} {k z : Nat} (h : Small zs k) (hz : zs[k]? = some z) (hs : z ≤ 255) : Small zs (k + 1) := by
  intro i y hi hy
  by_cases e : i = k
  · subst e; rw [hz] at hy; cases hy; exact hs
  · exact h i y (by omega) hy
theorem Small.all {zs : List Nat} {k : Nat} (h : Small zs k) (hk : zs.length ≤ k) : ∀ z ∈ zs, z ≤ 255 := by
  intro z hz
  obtain ⟨i, hi⟩ := List.mem_iff_getElem?.1 hz
  have := (List.getElem?_eq_some_iff.1 hi).1
  exact h i z (by omega) hi

set_option maxRecDepth 100000 in
set_option maxHeartbeats 2000000 in
/-- The main way: all bounds hold. -/
theorem fn5_main (p v : Nat) (a1 a2 a5 : Option Addr) (l1 c1 l2 c2 l5 c5 : Nat) (long : Bool) (pres : List Bool) (sizes tail : List Nat) (w : World)
    (i1 : Came w a1 l1 (pres.map Value.bool)) (i2 : Came w a2 l2 (sizes.map u16v)) (i5 : Came w a5 l5 (tail.map u8v)) (hp : p ≤ 7) (hv : v < 256) (b16 : ∀ z ∈ sizes, z < 65536) (b8 : ∀ y ∈ tail, y < 256)
    (h1 : l1 ≤ 200) (h10 : 1 ≤ l1) (h2 : l2 ≤ 200) (h5 : l5 ≤ 4096) :
    Calls Try.prog 5 #[.int .u8 (p : Int), .slice a1 l1 c1, .slice a2 l2 c2, .bool long, .int .u8 (v : Int), .slice a5 l5 c5] w fun e w' => e = .returned (.bool true) ∧ Below w.heap.size w w' := by
  have t1 : decide ((200 : Int) < (l1 : Int)) = false := by simp; omega
  have t2 : decide ((200 : Int) < (l2 : Int)) = false := by simp; omega
  have t5 : decide ((4096 : Int) < (l5 : Int)) = false := by simp; omega
  have tp : decide ((7 : Int) < (p : Int)) = false := by simp; omega
  have t0 : (((l1 : Nat) : Int) == 0) = false := by rw [beq_eq_false_iff_ne]; omega
  have HL1 : Hid (pres.length = l1) := (by simpa using i1.1 : pres.length = l1)
  have HL2 : Hid (sizes.length = l2) := (by simpa using i2.1 : sizes.length = l2)
  have HL5 : Hid (tail.length = l5) := (by simpa using i5.1 : tail.length = l5)
  have in2 := i2.inAt
  go_enter Try.func5, Try.ntmps5
  go_wp2_with fail
  refine (bytes15 p v a1 a2 a5 l1 c1 l2 c2 l5 c5 long w (by omega) (by omega) (by omega)).mono ?_
  rintro e w' ⟨b, rfl, rfl⟩
  cases b
  · go_wp2
    go_ret
    exact ⟨rfl, Below.refl _ _⟩
  · go_wp2
    go_loop [13] (fun i => ∃ k : Nat, k ≤ l2 ∧ i = .int .i64 (k : Int) ∧ Small sizes k) (fun i => l2 - (intOf i).toNat)
    case atStart => exact ⟨0, Nat.zero_le _, rfl, fun i z hi => by omega⟩
    case round =>
      obtain ⟨k, hk, rfl, hsm⟩ := hrel
      by_cases hlt : k < l2
      · have hks : k < sizes.length := by rw [HL2.out]; exact hlt
        obtain ⟨x, hax, hcx⟩ := in2 k (u16v sizes[k]) (by simp [List.getElem?_eq_getElem hks])
        have HZ : Hid (sizes[k]? = some sizes[k]) := List.getElem?_eq_getElem hks
        have hzb := b16 sizes[k] (List.getElem_mem hks)
        generalize sizes[k] = z at *
        subst hax
        unfold u16v at hcx
        by_cases hz : z ≤ 255
        · have HS : Hid (Small sizes (k + 1)) := hsm.succ HZ.out hz
          clear hsm HZ
          go_wp2
          go_round
          case rel => exact ⟨k + 1, by omega, by go_num, HS.out⟩
          case measure => simp [intOf]; omega
        · clear hsm HZ
          go_wp2
          go_ret
          exact ⟨rfl, Below.refl _ _⟩
      · have hs255 := hsm.all (by rw [HL2.out]; omega)
        clear hsm in2
        go_wp2_with fail
        refine (clone16 a1 l1 c1 _ w i1 (by omega) (by intro u hu; obtain ⟨z, _, rfl⟩ := List.mem_map.1 hu; exact ⟨z, rfl⟩)).mono ?_
        rintro e w1 ⟨v1, rfl, o1, e1⟩
        obtain ⟨ap, capp, hv1, A1⟩ := at_of_owns o1
        subst hv1
        clear o1
        go_wp2_with fail
        refine (clone17 a2 l2 c2 _ w1 (i2.below e1) (by omega) (by intro u hu; obtain ⟨z, _, rfl⟩ := List.mem_map.1 hu; exact ⟨_, rfl⟩)).mono ?_
        rintro e w2 ⟨v2, rfl, o2, e2⟩
        obtain ⟨az, capz, hv2, A2⟩ := at_of_owns o2
        subst hv2
        clear o2
        have e12 : Below w.heap.size w w2 := e1.trans (e2.mono e1.size)
        go_wp2_with fail
        refine (clone18 a5 l5 c5 _ w2 (i5.below e12) (by omega) (by intro u hu; obtain ⟨z, _, rfl⟩ := List.mem_map.1 hu; exact ⟨_, rfl⟩)).mono ?_
        rintro e w3 ⟨v3, rfl, o3, e3⟩
        obtain ⟨at', capt, hv3, A3⟩ := at_of_owns o3
        subst hv3
        clear o3
        have e13 : Below w.heap.size w w3 := e12.trans (e3.mono e12.size)
        have A1' := (((A1.below e2).mono e2.size).below e3).mono e3.size
        have A2' := (A2.below e3).mono e3.size
        clear A1 A2 i1 i2 i5 e1 e2 e3 e12
        go_wp2_with fail
        refine (put_wr w3.heap.size none 0 p 127 [] w3 (Wr.nil _ _) (Nat.le_refl _) (by omega) (by omega) (by simp; omega)).mono ?_
        rintro e w4 ⟨ao4, cap4, d4, rfl, W4, e4, H4⟩
        have hd4 : d4.length ≤ 7 := by rw [H4.out]; simp [bitsN_length]; omega
        have HP : Hid (d4.length = p) := (by rw [H4.out]; simp [bitsN_length] : d4.length = p)
        clear H4
        go_wp2_with fail
        refine (ext_wr' w3.heap.size ao4 cap4 v l1 l2 d4 pres sizes ap az capp capz long w4 W4 e4.size (A1'.below e4) (A2'.below e4) HL1 HL2 h10 h1 h2 hs255 hv (by omega)).mono ?_
        rintro e w5 ⟨ao5, cap5, d5, rfl, W5, e5, H5⟩
        have e35 := e4.trans e5
        have hlen5 : d5.length ≤ 413000 := by
          rw [H5.out]
          have := wExt_len d4 pres sizes long v hs255
          have := HL1.out
          omega
        have hpos5 : 1 ≤ d5.length := by
          rw [H5.out]
          exact wExt_pos d4 pres sizes long v (by rw [HL1.out]; exact h10)
        obtain ⟨n, hn1, hn2⟩ : ∃ n, 8 * n ≤ d5.length + 7 ∧ d5.length ≤ 8 * n := ⟨(d5.length + 7) / 8, by omega, by omega⟩
        clear A1' A2' W4 e4 e5
        go_wp2_with fail
        refine (pack_wr ao5 cap5 n d5.length d5 w5 W5.at rfl (by omega) hn1 hn2).mono ?_
        rintro e w6 ⟨by', rfl, o6, P6, e6⟩
        have HBL : Hid (by'.length = n) := (by simpa using o6.1 : by'.length = n)
        have e36 : Below w3.heap.size w3 w6 := e35.trans (e6.mono e35.size)
        have hb0 : Wb w6 w5.heap.size (some ⟨w5.heap.size, 0, none⟩) n by' := by
          unfold Wb
          rw [HBL.out]
          exact o6
        clear o6 W5
        have HEnd : Hid (∀ (ys : List Nat) (t : List Nat), ys = by' ++ t → d5.length ≤ 8 * ys.length ∧ rSkip (bitOf fun j => ys[j]?.getD 0) (8 * ys.length) (p, false) = (d5.length, false)) := by
          intro ys t hys
          have hyl : d5.length ≤ 8 * ys.length := by rw [hys, List.length_append, HBL.out]; omega
          refine ⟨hyl, ?_⟩
          have hag : Agree (bitOf fun j => ys[j]?.getD 0) (8 * ys.length) d5 := agree_pack P6 fun j _ hj => by
            rw [hys, List.getElem?_append_left (by rw [HBL.out]; omega)]
          have e5' := H5.out
          rw [e5'] at hag hyl ⊢
          have := ext_ends hag (by rw [HL1.out]; exact h10) (by rw [HL1.out]; omega) (fun z hz => by have := hs255 z hz; omega) hyl
          rw [HP.out] at this
          exact this
        have H256 : Hid (∀ y ∈ by', y < 256) := P6.1
        clear P6 H5 HP hs255 b16 hd4 HL1 HL2
        go_wp2
        go_loopw [16, 17] (fun s i wr => ∃ (k : Nat) (ao' : Option Addr) (cap' : Nat) (ys : List Nat), k ≤ l5 ∧ ys.length ≤ 60000 + k ∧ i = .int .i64 (k : Int) ∧ s = .slice ao' ys.length cap' ∧ Wb wr w5.heap.size ao' cap' ys ∧ Below w3.heap.size w3 wr ∧ w5.heap.size ≤ wr.heap.size ∧ Hid (ys = by' ++ tail.take k)) (fun _ i _ => l5 - (intOf i).toNat)
        case atStart => exact ⟨0, _, n, by', Nat.zero_le _, by rw [HBL.out]; omega, rfl, by rw [HBL.out], hb0, e36, e6.size, by show _ = _; simp⟩
        case round =>
          clear hb0 e36
          obtain ⟨j, ao', cap', ys, hj, hyl, rfl, rfl, hwb, hb3, hsz, HY⟩ := hrel
          by_cases hjl : j < l5
          · have hjt : j < tail.length := by rw [HL5.out]; exact hjl
            obtain ⟨gt, hat, hgt, hct⟩ := (A3.below hb3) j (u8v tail[j]) (by simp [List.getElem?_eq_getElem hjt])
            have HY2 : Hid (ys ++ [tail[j]] = by' ++ tail.take (j + 1)) := by
              show _ = _
              rw [HY.out, List.take_succ_eq_append_getElem hjt, List.append_assoc]
            clear HY A3
            generalize tail[j] = y at *
            subst hat
            unfold u8v at hct
            go_wp2_with (at_builtin; refine wpList_append_byte wr rfl _ _ rfl w5.heap.size ao' cap' ys y rfl hwb rfl (by omega) hsz ?_; intro ao2 cap2 w7 hw7 hb7)
            have hs7 := hb7.size
            have hb37 : Below w3.heap.size w3 w7 := hb3.trans (hb7.mono e35.size)
            go_roundw
            case rel => exact ⟨j + 1, ao2, cap2, ys ++ [y], by omega, by simp; omega, by go_num, by simp, hw7, hb37, by omega, HY2⟩
            case measure => simp [intOf]; omega
          · obtain ⟨hy8, hskip⟩ := HEnd.out ys _ HY.out
            have HSK : Hid (rSkip (bitOf fun j => ys[j]?.getD 0) (8 * ys.length) (p, false) = (d5.length, false)) := hskip
            have hy256 : ∀ y ∈ ys, y < 256 := by
              rw [HY.out]
              intro y hy
              rcases List.mem_append.1 hy with h | h
              · exact H256.out y h
              · exact b8 y (List.mem_of_mem_take h)
            have hypos : 1 ≤ ys.length := by
              rw [HY.out, List.length_append, HBL.out]; omega
            obtain ⟨g, hgo⟩ := hwb.some hypos
            subst hgo
            obtain ⟨hRd, hg1, hg2⟩ := rd_new rfl hwb hy256 (by omega) p hp
            have hbw : Below w.heap.size w wr := e13.trans (hb3.mono e13.size)
            clear hskip HY HEnd hwb A3 hy256 b8 H256
            go_wp2_with fail
            refine (new_rd g ys.length cap' p wr).mono ?_
            rintro e w8 ⟨rfl, rfl⟩
            go_wp2_with fail
            refine (zzskip_rd wr.heap.size g ys.length cap' (p, false) _ _ hRd).mono ?_
            rintro e w9 ⟨rfl, R9, g9⟩
            rw [HSK.out] at R9
            go_wp2_with fail
            refine (state_rd wr.heap.size g ys.length cap' (d5.length, false) _ w9 R9).mono ?_
            rintro e w10 ⟨rfl, g10⟩
            go_wp2
            go_ret
            exact ⟨rfl, below_end hbw hbw.size rfl g9 g10⟩
set_option maxRecDepth 100000 in
set_option maxHeartbeats 1000000 in
/-- THE LAW: on every input the call returns true. -/
theorem fn5_walk (p v : Nat) (a1 a2 a5 : Option Addr) (l1 c1 l2 c2 l5 c5 : Nat) (long : Bool) (pres : List Bool) (sizes tail : List Nat) (w : World)
    (i1 : Came w a1 l1 (pres.map Value.bool)) (i2 : Came w a2 l2 (sizes.map u16v)) (i5 : Came w a5 l5 (tail.map u8v)) (hp : p < 256) (hv : v < 256) (b16 : ∀ z ∈ sizes, z < 65536) (b8 : ∀ y ∈ tail, y < 256)
    (m1 : l1 ≤ 9223372036854775807) (m2 : l2 ≤ 9223372036854775807) (m5 : l5 ≤ 9223372036854775807) :
    Calls Try.prog 5 #[.int .u8 (p : Int), .slice a1 l1 c1, .slice a2 l2 c2, .bool long, .int .u8 (v : Int), .slice a5 l5 c5] w fun e w' => e = .returned (.bool true) ∧ Below w.heap.size w w' := by
  by_cases h : l1 ≤ 200 ∧ l2 ≤ 200 ∧ l5 ≤ 4096 ∧ p ≤ 7 ∧ 1 ≤ l1
  · exact fn5_main p v a1 a2 a5 l1 c1 l2 c2 l5 c5 long pres sizes tail w i1 i2 i5 h.2.2.2.1 hv b16 b8 h.1 h.2.2.2.2 h.2.1 h.2.2.1
  · have hB := bytes15 p v a1 a2 a5 l1 c1 l2 c2 l5 c5 long w m1 m2 m5
    clear i1 i2 i5 b16 b8
    by_cases k1 : l1 ≤ 200
    · have t1 : decide ((200 : Int) < (l1 : Int)) = false := by simp; omega
      by_cases k2 : l2 ≤ 200
      · have t2 : decide ((200 : Int) < (l2 : Int)) = false := by simp; omega
        by_cases k5 : l5 ≤ 4096
        · have t5 : decide ((4096 : Int) < (l5 : Int)) = false := by simp; omega
          by_cases kp : p ≤ 7
          · obtain rfl : l1 = 0 := by omega
            have tp : decide ((7 : Int) < (p : Int)) = false := by simp; omega
            go_enter Try.func5, Try.ntmps5
            go_wp2_with (go_at_call 15; refine hB.mono ?_; rintro e w' ⟨b, rfl, rfl⟩; cases b)
            all_goals
              go_ret
              exact ⟨rfl, Below.refl _ _⟩
          · have tp : decide ((7 : Int) < (p : Int)) = true := by simp; omega
            go_enter Try.func5, Try.ntmps5
            go_wp2_with (go_at_call 15; refine hB.mono ?_; rintro e w' ⟨b, rfl, rfl⟩; cases b)
            all_goals
              go_ret
              exact ⟨rfl, Below.refl _ _⟩
        · have t5 : decide ((4096 : Int) < (l5 : Int)) = true := by simp; omega
          go_enter Try.func5, Try.ntmps5
          go_wp2_with (go_at_call 15; refine hB.mono ?_; rintro e w' ⟨b, rfl, rfl⟩; cases b)
          all_goals
            go_ret
            exact ⟨rfl, Below.refl _ _⟩
      · have t2 : decide ((200 : Int) < (l2 : Int)) = true := by simp; omega
        go_enter Try.func5, Try.ntmps5
        go_wp2_with (go_at_call 15; refine hB.mono ?_; rintro e w' ⟨b, rfl, rfl⟩; cases b)
        all_goals
          go_ret
          exact ⟨rfl, Below.refl _ _⟩
    · have t1 : decide ((200 : Int) < (l1 : Int)) = true := by simp; omega
      go_enter Try.func5, Try.ntmps5
      go_wp2_with (go_at_call 15; refine hB.mono ?_; rintro e w' ⟨b, rfl, rfl⟩; cases b)
      all_goals
        go_ret
        exact ⟨rfl, Below.refl _ _⟩
end Go.Proofs.Qxb6002696a
