/- The law FnQnameSplitsBackAtFirstColon (4): the walk. -/
import Derived.Test.Qxb6603688aQStr
namespace Go.Proofs.Qxb6603688a
open Go.RowKit
set_option linter.unusedVariables false

theorem col_false {q : ByteArray} {Q : List UInt8} (h : q.data.toList = Q) (k : Nat) (hk : k < q.size) (hne : Q[k]? ≠ some 58) : (((q[k]).toNat : Int) == 58) = false := by
  have hl : k < Q.length := by rw [← h]; simpa using hk
  rw [byte_58, decide_eq_false_iff_not, get_of h k hk hl]
  intro e
  exact hne (by rw [List.getElem?_eq_getElem hl, e])
theorem col_true {q : ByteArray} {Q : List UInt8} (h : q.data.toList = Q) (k : Nat) (hk : k < q.size) (he : Q[k]? = some 58) : (((q[k]).toNat : Int) == 58) = true := by
  have hl : k < Q.length := by rw [← h]; simpa using hk
  rw [byte_58, decide_eq_true_eq, get_of h k hk hl]
  rw [List.getElem?_eq_getElem hl] at he
  exact Option.some.inj he

set_option maxRecDepth 100000 in
set_option maxHeartbeats 1000000 in
/-- No space before the name. -/
theorem fn4_nil (a1 a2 : Option Addr) (n1 c1 n2 c2 : Nat) (l v : List UInt8) (w : World) (HL : Hid (l.length = n1)) (HV : Hid (v.length = n2)) (i1 : InAt w a1 l) (i2 : InAt w a2 v) (z1 : a1 = none → n1 = 0) (z2 : a2 = none → n2 = 0) (b1 : n1 ≤ 262144) (b2 : n2 ≤ 262144) :
    Calls Try.prog 4 #[.slice none 0 0, .slice a1 n1 c1, .slice a2 n2 c2] w fun e w' => e = .returned (.bool true) ∧ Below w.heap.size w w' := by
  have hk := fun w a n c => Lib.run_eql_slice_nil (P := Try.prog) w 24 5 a n c 0 0 Try.underlying24
  have t1 : decide ((262144 : Int) < (n1 : Int)) = false := by simp; omega
  have t2 : decide ((262144 : Int) < (n2 : Int)) = false := by simp; omega
  go_enter Try.func4, Try.ntmps4
  go_wp2_with fail
  refine (bytes8 none a1 a2 0 0 n1 c1 n2 c2 w (by omega) (by omega) (by omega)).mono ?_
  rintro e w' ⟨b, rfl, rfl⟩
  cases b
  · go_wp2
    go_ret
    exact ⟨rfl, Below.refl _ _⟩
  · go_wp2_with fail
    refine (colon_any none 0 0 [] w rfl (fun j b hj => by simp at hj) (by omega)).mono ?_
    rintro e w' ⟨⟨b, rfl, _⟩, rfl⟩
    cases b
    · go_wp2_with fail
      refine (colon_any a1 n1 c1 l w HL i1 (by omega)).mono ?_
      rintro e w' ⟨⟨b, rfl, hb⟩, rfl⟩
      cases b
      · have hno := hb rfl
        clear hb
        go_wp2_with fail
        refine (clone_nil 0 w).mono ?_
        rintro e w' ⟨rfl, rfl⟩
        go_wp2_with fail
        refine (clone_any a1 n1 c1 l w HL.out i1 z1 (by omega)).mono ?_
        rintro e w1 ⟨a1', c1', rfl, j1, y1, e1⟩
        go_wp2_with fail
        refine (clone_any a2 n2 c2 v w1 HV.out (i2.below e1) z2 (by omega)).mono ?_
        rintro e w2 ⟨a2', c2', rfl, j2, y2, e2⟩
        have j1' := j1.below e2
        have z1' : a1' = none → n1 = 0 := fun h => z1 (y1.1 h)
        have e12 : Below w.heap.size w w2 := e1.trans (e2.mono e1.size)
        clear j1 j2 y1 y2 i1 i2 e1 e2
        go_wp2_with fail
        refine (zzqname_nil a1' a2' n1 c1' n2 c2' l w2 HL j1' z1').mono ?_
        rintro e w3 ⟨rfl, e3⟩
        have j1'' := j1'.below e3
        have e13 : Below w.heap.size w w3 := e12.trans (e3.mono e12.size)
        obtain ⟨q, hq⟩ : ∃ q, q = ByteArray.mk l.toArray := ⟨_, rfl⟩
        have HQ : Hid (q.data.toList = l) := (by rw [hq] : q.data.toList = l)
        have hqs : q.size ≤ n1 ∧ n1 ≤ q.size := by
          have h1 : q.size = l.length := by rw [hq]; simp [ByteArray.size]
          have := HL.out
          omega
        obtain ⟨hq1, hq2⟩ := hqs
        rw [← hq]
        clear hq j1' e12 e3
        go_wp2
        go_loop [8, 9] (fun k i => ∃ j : Nat, j ≤ n1 ∧ i = .int .i64 (j : Int) ∧ k = .int .i64 (-1)) (fun _ i => n1 - (intOf i).toNat)
        case atStart => exact ⟨0, Nat.zero_le _, rfl, rfl⟩
        case round =>
          obtain ⟨j, hj, rfl, rfl⟩ := hrel
          by_cases hlt : j < n1
          · have hjq : j < q.size := by omega
            have h58 := col_false HQ.out j hjq (fun h => hno (List.mem_of_getElem? h))
            go_wp2
            go_round
            case rel => exact ⟨j + 1, by omega, by go_num, rfl⟩
            case measure => simp [intOf]; omega
          · go_wp2_with fail
            refine (stris_any q a1' n1 c1' l w3 HQ HL hq1 hq2 j1'' (by omega)).mono ?_
            rintro e w4 ⟨rfl, m, rfl⟩
            go_wp2
            go_ret
            exact ⟨rfl, below_drewN e13 m⟩
      · clear hb
        go_wp2
        go_ret
        exact ⟨rfl, Below.refl _ _⟩
    · go_wp2
      go_ret
      exact ⟨rfl, Below.refl _ _⟩
theorem cut_before {q : ByteArray} {p l : List UInt8} {n0 : Nat} (h : q.data.toList = p ++ 58 :: l) (hp : p.length = n0) : (q.extract 0 n0).data.toList = p := by
  rw [Lib.extract_data, h, List.drop_zero, Nat.sub_zero, ← hp, List.take_left' rfl]
theorem cut_behind {q : ByteArray} {p l : List UInt8} {n0 : Nat} (h : q.data.toList = p ++ 58 :: l) (hp : p.length = n0) : (q.extract (n0 + 1) q.size).data.toList = l := by
  have hs : q.size = p.length + 1 + l.length := by
    have := congrArg List.length h
    simp at this
    have h2 : q.size = q.data.size := rfl
    omega
  rw [Lib.extract_data, h, show p ++ 58 :: l = (p ++ [58]) ++ l by simp, List.drop_left' (by simp [hp]), List.take_of_length_le (by omega)]

set_option maxRecDepth 100000 in
set_option maxHeartbeats 1000000 in
/-- A space before the name, perhaps empty. -/
theorem fn4_some (x : Addr) (a1 a2 : Option Addr) (n0 c0 n1 c1 n2 c2 : Nat) (p l v : List UInt8) (w : World) (HP : Hid (p.length = n0)) (HL : Hid (l.length = n1)) (HV : Hid (v.length = n2)) (i0 : InAt w (some x) p) (i1 : InAt w a1 l) (i2 : InAt w a2 v)
    (z1 : a1 = none → n1 = 0) (z2 : a2 = none → n2 = 0) (b0 : n0 ≤ 262144) (b1 : n1 ≤ 262144) (b2 : n2 ≤ 262144) :
    Calls Try.prog 4 #[.slice (some x) n0 c0, .slice a1 n1 c1, .slice a2 n2 c2] w fun e w' => e = .returned (.bool true) ∧ Below w.heap.size w w' := by
  have hk := fun w a n c => Lib.run_eql_slice_nil (P := Try.prog) w 24 5 a n c 0 0 Try.underlying24
  have t0 : decide ((262144 : Int) < (n0 : Int)) = false := by simp; omega
  have t1 : decide ((262144 : Int) < (n1 : Int)) = false := by simp; omega
  have t2 : decide ((262144 : Int) < (n2 : Int)) = false := by simp; omega
  go_enter Try.func4, Try.ntmps4
  go_wp2_with fail
  refine (bytes8 (some x) a1 a2 n0 c0 n1 c1 n2 c2 w (by omega) (by omega) (by omega)).mono ?_
  rintro e w' ⟨b, rfl, rfl⟩
  cases b
  · go_wp2
    go_ret
    exact ⟨rfl, Below.refl _ _⟩
  · go_wp2_with fail
    refine (colon_any (some x) n0 c0 p w HP i0 (by omega)).mono ?_
    rintro e w' ⟨⟨b, rfl, hb⟩, rfl⟩
    cases b
    · have hno := hb rfl
      clear hb
      go_wp2_with fail
      refine (clone_some x n0 c0 p w HP.out i0 (by omega)).mono ?_
      rintro e w1 ⟨rfl, j0, e1⟩
      go_wp2_with fail
      refine (clone_any a1 n1 c1 l w1 HL.out (i1.below e1) z1 (by omega)).mono ?_
      rintro e w2 ⟨a1', c1', rfl, j1, y1, e2⟩
      have e12 : Below w.heap.size w w2 := e1.trans (e2.mono e1.size)
      go_wp2_with fail
      refine (clone_any a2 n2 c2 v w2 HV.out (i2.below e12) z2 (by omega)).mono ?_
      rintro e w3 ⟨a2', c2', rfl, j2, y2, e3⟩
      have j0' := (j0.below e2).below e3
      have j1' := j1.below e3
      have z1' : a1' = none → n1 = 0 := fun h => z1 (y1.1 h)
      have e13 : Below w.heap.size w w3 := e12.trans (e3.mono e12.size)
      clear j0 j1 j2 y1 y2 i0 i1 i2 e1 e2 e3 e12
      go_wp2_with fail
      refine (zzqname_some ⟨w.heap.size, 0, none⟩ a1' a2' n0 n0 n1 c1' n2 c2' p l w3 HP HL j0' j1' z1' (by omega) (by omega)).mono ?_
      rintro e w4 ⟨rfl, e4⟩
      have k0 := j0'.below e4
      have k1 := j1'.below e4
      have e14 : Below w.heap.size w w4 := e13.trans (e4.mono e13.size)
      obtain ⟨q, hq⟩ : ∃ q, q = ByteArray.mk (p ++ 58 :: l).toArray := ⟨_, rfl⟩
      have HQ : Hid (q.data.toList = p ++ 58 :: l) := (by rw [hq] : q.data.toList = p ++ 58 :: l)
      have hqs : q.size ≤ n0 + 1 + n1 ∧ n0 + 1 + n1 ≤ q.size := by
        have h1 : q.size = (p ++ 58 :: l).length := by rw [hq]; simp [ByteArray.size]
        have := HL.out
        have := HP.out
        simp at h1
        omega
      obtain ⟨hq1, hq2⟩ := hqs
      rw [← hq]
      have HC0 : Hid ((q.extract 0 n0).data.toList = p) := cut_before HQ.out HP.out
      have HC1 : Hid ((q.extract (n0 + 1) q.size).data.toList = l) := cut_behind HQ.out HP.out
      clear hq j0' j1' e13 e4
      go_wp2
      go_loop [8, 9] (fun k i => ∃ j : Nat, j ≤ n0 ∧ i = .int .i64 (j : Int) ∧ k = .int .i64 (-1)) (fun _ i => n0 + 1 - (intOf i).toNat)
      case atStart => exact ⟨0, Nat.zero_le _, rfl, rfl⟩
      case round =>
        obtain ⟨j, hj, rfl, rfl⟩ := hrel
        by_cases hlt : j < n0
        · have hjq : j < q.size := by omega
          have h58 := col_false HQ.out j hjq (fun h => hno (by
            rw [List.getElem?_append_left (by rw [HP.out]; exact hlt)] at h
            exact List.mem_of_getElem? h))
          go_wp2
          go_round
          case rel => exact ⟨j + 1, by omega, by go_num, rfl⟩
          case measure => simp [intOf]; omega
        · obtain rfl : j = n0 := by omega
          have hjq : j < q.size := by omega
          have h58 := col_true HQ.out j hjq (by rw [List.getElem?_append_right (by rw [HP.out]; exact Nat.le_refl _), HP.out]; simp)
          have hs0 : (q.extract 0 j).size ≤ j ∧ j ≤ (q.extract 0 j).size := by rw [ByteArray.size_extract]; omega
          have hs1 : (q.extract (j + 1) q.size).size ≤ n1 ∧ n1 ≤ (q.extract (j + 1) q.size).size := by rw [ByteArray.size_extract]; omega
          go_wp2_with fail
          refine (stris_any (q.extract 0 j) (some ⟨w.heap.size, 0, none⟩) j j p w4 HC0 HP hs0.1 hs0.2 k0 (by omega)).mono ?_
          rintro e w5 ⟨rfl, m5, rfl⟩
          go_wp2_with fail
          refine (stris_any (q.extract (j + 1) q.size) a1' n1 c1' l _ HC1 HL hs1.1 hs1.2 (k1.drewN m5) (by omega)).mono ?_
          rintro e w6 ⟨rfl, m6, rfl⟩
          go_wp2
          go_ret
          exact ⟨rfl, below_drewN e14 _⟩
    · clear hb
      go_wp2
      go_ret
      exact ⟨rfl, Below.refl _ _⟩
set_option maxRecDepth 100000 in
set_option maxHeartbeats 1000000 in
/-- THE LAW: on every input the call returns true. -/
theorem fn4_walk (a0 a1 a2 : Option Addr) (n0 c0 n1 c1 n2 c2 : Nat) (p l v : List UInt8) (w : World) (HP : Hid (p.length = n0)) (HL : Hid (l.length = n1)) (HV : Hid (v.length = n2)) (i0 : InAt w a0 p) (i1 : InAt w a1 l) (i2 : InAt w a2 v)
    (z0 : a0 = none → n0 = 0 ∧ c0 = 0) (z1 : a1 = none → n1 = 0) (z2 : a2 = none → n2 = 0) (m0 : n0 ≤ 9223372036854775807) (m1 : n1 ≤ 9223372036854775807) (m2 : n2 ≤ 9223372036854775807) :
    Calls Try.prog 4 #[.slice a0 n0 c0, .slice a1 n1 c1, .slice a2 n2 c2] w fun e w' => e = .returned (.bool true) ∧ Below w.heap.size w w' := by
  by_cases h : n0 ≤ 262144 ∧ n1 ≤ 262144 ∧ n2 ≤ 262144
  · cases a0 with
    | none =>
      obtain ⟨rfl, rfl⟩ := z0 rfl
      exact fn4_nil a1 a2 n1 c1 n2 c2 l v w HL HV i1 i2 z1 z2 h.2.1 h.2.2
    | some x => exact fn4_some x a1 a2 n0 c0 n1 c1 n2 c2 p l v w HP HL HV i0 i1 i2 z1 z2 h.1 h.2.1 h.2.2
  · have hB := bytes8 a0 a1 a2 n0 c0 n1 c1 n2 c2 w m0 m1 m2
    clear i0 i1 i2
    by_cases k0 : n0 ≤ 262144
    · have t0 : decide ((262144 : Int) < (n0 : Int)) = false := by simp; omega
      by_cases k1 : n1 ≤ 262144
      · have t1 : decide ((262144 : Int) < (n1 : Int)) = false := by simp; omega
        have t2 : decide ((262144 : Int) < (n2 : Int)) = true := by simp; omega
        go_enter Try.func4, Try.ntmps4
        go_wp2_with (go_at_call 8; refine hB.mono ?_; rintro e w' ⟨b, rfl, rfl⟩; cases b)
        all_goals
          go_ret
          exact ⟨rfl, Below.refl _ _⟩
      · have t1 : decide ((262144 : Int) < (n1 : Int)) = true := by simp; omega
        go_enter Try.func4, Try.ntmps4
        go_wp2_with (go_at_call 8; refine hB.mono ?_; rintro e w' ⟨b, rfl, rfl⟩; cases b)
        all_goals
          go_ret
          exact ⟨rfl, Below.refl _ _⟩
    · have t0 : decide ((262144 : Int) < (n0 : Int)) = true := by simp; omega
      go_enter Try.func4, Try.ntmps4
      go_wp2_with (go_at_call 8; refine hB.mono ?_; rintro e w' ⟨b, rfl, rfl⟩; cases b)
      all_goals
        go_ret
        exact ⟨rfl, Below.refl _ _⟩
end Go.Proofs.Qxb6603688a
