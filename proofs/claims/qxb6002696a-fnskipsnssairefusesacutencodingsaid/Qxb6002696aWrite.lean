/- The writer's own functions: zzPutBits (20), zzAlign (37), zzPutLength (33), zzB2U (34), zzPutOpenType (35). -/
import Derived.Test.Qxb6002696aBase
import Derived.Test.Qxb6002696aPlain2
import Derived.Deep.LoopGhost
namespace Go.Proofs.Qxb6002696a
open Go.RowKit
set_option linter.unusedVariables false

def bv (b : Bool) : Value := .int .u8 (b.toNat : Int)
/-- A list of bits in memory: the call's own row of bytes, from block 'base' on. -/
def Wr (w : World) (base : Nat) (ao : Option Addr) (cap : Nat) (bs : List Bool) : Prop := w.ownsRow base 5 1 (.slice ao bs.length cap) bs.length (bs.map bv)

theorem Wr.nil (w : World) (base : Nat) : Wr w base none 0 [] := World.ownsRow_nil _ _ _ _

/-- 'bs = append(bs, b)': the row grows by one bit. -/
theorem wpList_append_bit (w0 : World) {ops : Array Oper} {rest : List Oper} {o : Oper} {a : Act} {Q : Exit → Act → World → Prop} (hgd : o.guard = none) (s x : Operand)
    (ho : o.op = .call { callee := .builtin .append, args := #[s, x], argTypes := #[34, 34] }) (base : Nat) (ao : Option Addr) (cap : Nat) (cs : List Bool) (b : Bool) (xv : Int) (hxv : xv = (b.toNat : Int))
    (hs : a.eval s = .slice ao cs.length cap) (hw : Wr w0 base ao cap cs) (hx : a.eval x = .slice (some ⟨w0.heap.size, 0, none⟩) 1 1) (hl : cs.length + 1 ≤ 1000000000) (hbase : base ≤ w0.heap.size)
    (hK : ∀ ao' cap' w', Wr w' base ao' cap' (cs ++ [b]) → Below base w0 w' → wpList Try.prog ops Q rest (a.put o.dst (.slice ao' (cs.length + 1) cap')) w') :
    wpList Try.prog ops Q (o :: rest) a (w0.alloc (.cells #[.int .u8 xv] 5)) := by
  obtain ⟨i0, hi, hz0, hz1, hz2⟩ := info_parts Try.info5
  subst hxv
  have hown : w0.ownsRow base 5 1 (.slice ao cs.length cap) cs.length (cs.map bv) := hw
  refine wpList_append_own _ hgd s x 34 ho base 5 i0 (.int .u8 0) 1 1 Try.underlying34 hi hz0 hz1 hz2 rfl (by decide) _ _ _ hs (hown.alloc _) ⟨w0.heap.size, 0, none⟩ 1 1 [bv b] hx rfl ?_ ?_ (by unfold maxLen; omega) (by omega) (by simp; omega) ?_
  · intro j u hj
    match j, hj with
    | 0, hj => simp at hj; subst hj; simp [Addr.add, bv]
  · intro u hu; simp at hu; subst hu; rfl
  · intro v' w' hown' hgrow _
    have hbel : Below base w0 w' := ((Below.refl _ _).alloc hbase _).grown hgrow (by simp; omega) (fun k hk => (hown.lt k hk).1)
    rcases hown'.2 with ⟨_, h0⟩ | ⟨g, cap', cur, hv, _⟩
    · omega
    · subst hv
      refine hK _ _ _ ?_ hbel
      unfold Wr
      rw [List.length_append, List.map_append]
      exact hown'

theorem put_bit (v k : Nat) (hv : v < 4294967296) : bits .and .u32 ((v : Int) / 2 ^ k) 1 % 256 = ((v.testBit k).toNat : Int) := by
  have e1 : ((v : Int) / 2 ^ k) = ((v / 2 ^ k : Nat) : Int) := by simp
  have hd : v / 2 ^ k < 4294967296 := Nat.lt_of_le_of_lt (Nat.div_le_self _ _) hv
  have e2 : bits .and .u32 ((v / 2 ^ k : Nat) : Int) 1 = ((v / 2 ^ k % 2 : Nat) : Int) := by
    have := u32_and_nat (v / 2 ^ k) 1 hd (by decide)
    rw [nat_mask1] at this
    exact this
  rw [e1, e2, Nat.testBit_eq_decide_div_mod_eq]
  have h2 := Nat.mod_lt (v / 2 ^ k) (show 2 > 0 by decide)
  by_cases h : v / 2 ^ k % 2 = 1
  · simp [h]
  · have h0 : v / 2 ^ k % 2 = 0 := by omega
    simp [h0]

set_option maxHeartbeats 400000 in
theorem put_wr (base : Nat) (ao : Option Addr) (cap n v : Nat) (bs : List Bool) (w : World) (hw : Wr w base ao cap bs) (hb : base ≤ w.heap.size) (hn : n ≤ 32) (hv : v < 4294967296) (hl : bs.length + n ≤ 100000000) :
    Calls Try.prog 20 #[.slice ao bs.length cap, .int .u32 (v : Int), .int .i64 (n : Int)] w fun e w' => ∃ ao' cap' cs, e = .returned (.slice ao' cs.length cap') ∧ Wr w' base ao' cap' cs ∧ Below base w w' ∧ Hid (cs = bs ++ bitsN v n) := by
  go_enter Try.func20, Try.ntmps20
  go_wp2
  go_loopw [0, 7] (fun s i wr => ∃ (k : Nat) (ao' : Option Addr) (cap' : Nat) (cs : List Bool), k ≤ n ∧ cs.length ≤ bs.length + n ∧ i = .int .i64 ((k : Int) - 1) ∧ s = .slice ao' cs.length cap' ∧ Wr wr base ao' cap' cs ∧ Below base w wr ∧ Hid (cs ++ bitsN v k = bs ++ bitsN v n)) (fun _ i _ => (intOf i + 1).toNat)
  case atStart => exact ⟨n, ao, cap, bs, Nat.le_refl _, by omega, rfl, rfl, hw, Below.refl _ _, rfl⟩
  case round =>
    obtain ⟨k, ao', cap', cs, hk, hcl, rfl, rfl, hw', hbel, HB⟩ := hrel
    by_cases hlt : 0 < k
    · obtain ⟨m, rfl⟩ : ∃ m, k = m + 1 := ⟨k - 1, by omega⟩
      have HB2 : Hid ((cs ++ [v.testBit m]) ++ bitsN v m = bs ++ bitsN v n) := by
        show _ = _
        rw [← HB.out, bitsN]; simp
      have hcl2 : cs.length + 1 ≤ bs.length + n := by
        have := congrArg List.length HB2.out
        simp [bitsN_length] at this
        omega
      have hws := hbel.size
      have hpb := put_bit v m hv
      clear HB
      go_wp2_with (at_builtin; refine wpList_append_bit wr rfl _ _ rfl base ao' cap' cs (v.testBit m) _ (by first | exact hpb | rfl) rfl hw' rfl (by omega) (by omega) ?_; intro ao2 cap2 w2 hw2 hb2)
      go_roundw
      case rel => exact ⟨m, ao2, cap2, cs ++ [v.testBit m], by omega, by simp; omega, rfl, by simp, hw2, hbel.trans hb2, HB2⟩
      case measure => simp [intOf]
    · obtain rfl : k = 0 := by omega
      go_wp2
      go_ret
      exact ⟨_, _, _, rfl, hw', hbel, by have e := HB.out; rw [bitsN, List.append_nil] at e; exact e⟩
theorem pad_lt (k j : Nat) (h : j < pad k) : (k + j) % 8 ≠ 0 := by unfold pad at h; omega
theorem pad_eq (k : Nat) : (k + pad k) % 8 = 0 := by unfold pad; omega

set_option maxHeartbeats 400000 in
theorem align_wr (base : Nat) (ao : Option Addr) (cap : Nat) (bs : List Bool) (w : World) (hw : Wr w base ao cap bs) (hb : base ≤ w.heap.size) (hl : bs.length ≤ 100000000) :
    Calls Try.prog 37 #[.slice ao bs.length cap] w fun e w' => ∃ ao' cap' cs, e = .returned (.slice ao' cs.length cap') ∧ Wr w' base ao' cap' cs ∧ Below base w w' ∧ Hid (cs = wAlign bs) := by
  have hp8 : pad bs.length < 8 := by unfold pad; omega
  go_enter Try.func37, Try.ntmps37
  go_wp2
  go_loopg [0] (pad bs.length) (fun g s wr => ∃ (ao' : Option Addr) (cap' : Nat) (cs : List Bool), g ≤ pad bs.length ∧ s = .slice ao' cs.length cap' ∧ Wr wr base ao' cap' cs ∧ Below base w wr ∧ Hid (cs = bs ++ List.replicate (pad bs.length - g) false))
  case atStart => exact ⟨ao, cap, bs, Nat.le_refl _, rfl, hw, Below.refl _ _, by show _ = _; simp⟩
  case round =>
    obtain ⟨ao', cap', cs, hg, rfl, hw', hbel, HB⟩ := hrel
    have hlen : cs.length = bs.length + (pad bs.length - gk) := by rw [HB.out]; simp
    by_cases h0 : 0 < gk
    · have ht : ((((cs.length : Nat) : Int) % 8) != 0) = true := by
        have := pad_lt bs.length (pad bs.length - gk) (by omega)
        rw [bne_iff_ne]; omega
      have HB2 : Hid (cs ++ [false] = bs ++ List.replicate (pad bs.length - (gk - 1)) false) := by
        show _ = _
        rw [HB.out, List.append_assoc, show pad bs.length - (gk - 1) = (pad bs.length - gk) + 1 by omega, List.replicate_succ']
      have hcl : cs.length ≤ 200000000 := by omega
      have hws := hbel.size
      clear HB hlen
      go_wp2_with (at_builtin; refine wpList_append_bit wr rfl _ _ rfl base ao' cap' cs false _ rfl rfl hw' rfl (by omega) (by omega) ?_; intro ao2 cap2 w2 hw2 hb2)
      go_roundg (gk - 1)
      case measure => omega
      case rel => exact ⟨ao2, cap2, cs ++ [false], by omega, by simp, hw2, hbel.trans hb2, HB2⟩
    · obtain rfl : gk = 0 := by omega
      have ht : ((((cs.length : Nat) : Int) % 8) != 0) = false := by
        have := pad_eq bs.length
        rw [bne_eq_false_iff_eq]; omega
      have HB2 : Hid (cs = wAlign bs) := HB.out
      clear HB hlen
      go_wp2
      go_ret
      exact ⟨_, _, _, rfl, hw', hbel, HB2⟩

theorem b2u (b : Bool) (w : World) : Calls Try.prog 34 #[.bool b] w fun e w' => e = .returned (.int .u32 (b.toNat : Int)) ∧ w = w' := by
  cases b
  · go_enter Try.func34, Try.ntmps34
    go_wp2
    go_ret
    exact ⟨rfl, rfl⟩
  · go_enter Try.func34, Try.ntmps34
    go_wp2
    go_ret
    exact ⟨rfl, rfl⟩

theorem or8000 (n : Nat) (h : n < 16384) : bits .or .u32 32768 (n : Int) = ((32768 + n : Nat) : Int) := by
  have := u32_or_nat 32768 n (by decide) (by omega)
  rw [nat_join 15 32768 n (by decide) (by omega)] at this
  exact this

set_option maxRecDepth 100000 in
set_option maxHeartbeats 400000 in
theorem length_wr (base : Nat) (ao : Option Addr) (cap n : Nat) (bs : List Bool) (w : World) (hw : Wr w base ao cap bs) (hb : base ≤ w.heap.size) (hn : n < 16384) (hl : bs.length ≤ 10000000) :
    Calls Try.prog 33 #[.slice ao bs.length cap, .int .i64 (n : Int)] w fun e w' => ∃ ao' cap' cs, e = .returned (.slice ao' cs.length cap') ∧ Wr w' base ao' cap' cs ∧ Below base w w' ∧ Hid (cs = wLength bs n) := by
  have hor := or8000 n hn
  by_cases hs : n < 128
  · clear hor
    go_enter Try.func33, Try.ntmps33
    go_wp2_with fail
    refine (align_wr base ao cap bs w hw hb (by omega)).mono ?_
    rintro e w1 ⟨ao1, cap1, c1, rfl, hw1, hb1, H1⟩
    have hal : c1.length ≤ 10000008 := by rw [H1.out, wAlign_length]; unfold al; omega
    have hs1 := hb1.size
    go_wp2_with fail
    refine (put_wr base ao1 cap1 8 n _ w1 hw1 (by omega) (by omega) (by omega) (by omega)).mono ?_
    rintro e w2 ⟨ao2, cap2, c2, rfl, hw2, hb2, H2⟩
    go_wp2
    go_ret
    exact ⟨_, _, _, rfl, hw2, hb1.trans hb2, by show _ = _; rw [H2.out, H1.out, wLength, if_pos hs]⟩
  · go_enter Try.func33, Try.ntmps33
    go_wp2_with fail
    refine (align_wr base ao cap bs w hw hb (by omega)).mono ?_
    rintro e w1 ⟨ao1, cap1, c1, rfl, hw1, hb1, H1⟩
    have hal : c1.length ≤ 10000008 := by rw [H1.out, wAlign_length]; unfold al; omega
    have hs1 := hb1.size
    go_wp2_with fail
    refine (put_wr base ao1 cap1 16 (32768 + n) _ w1 hw1 (by omega) (by omega) (by omega) (by omega)).mono ?_
    rintro e w2 ⟨ao2, cap2, c2, rfl, hw2, hb2, H2⟩
    go_wp2
    go_ret
    exact ⟨_, _, _, rfl, hw2, hb1.trans hb2, by show _ = _; rw [H2.out, H1.out, wLength, if_neg hs]⟩

theorem wLength_len (bs : List Bool) (n : Nat) : (wLength bs n).length ≤ bs.length + 23 := by
  unfold wLength
  split <;> rw [List.length_append, wAlign_length, bitsN_length] <;> (unfold al; omega)

set_option maxHeartbeats 400000 in
theorem open_wr (base : Nat) (ao : Option Addr) (cap n v : Nat) (bs : List Bool) (w : World) (hw : Wr w base ao cap bs) (hb : base ≤ w.heap.size) (hn : n < 16384) (hv : v < 256) (hl : bs.length ≤ 8000000) :
    Calls Try.prog 35 #[.slice ao bs.length cap, .int .i64 (n : Int), .int .u8 (v : Int)] w fun e w' => ∃ ao' cap' cs, e = .returned (.slice ao' cs.length cap') ∧ Wr w' base ao' cap' cs ∧ Below base w w' ∧ Hid (cs = wOpen bs n v) := by
  have hwl := wLength_len bs n
  go_enter Try.func35, Try.ntmps35
  go_wp2_with fail
  refine (length_wr base ao cap n bs w hw hb hn (by omega)).mono ?_
  rintro e w1 ⟨ao1, cap1, c1, rfl, hw1, hb1, H1⟩
  go_wp2
  go_loopw [0, 7] (fun s i wr => ∃ (k : Nat) (ao' : Option Addr) (cap' : Nat) (cs : List Bool), k ≤ n ∧ i = .int .i64 (k : Int) ∧ s = .slice ao' cs.length cap' ∧ Wr wr base ao' cap' cs ∧ Below base w wr ∧ Hid (cs = wLength bs n ++ wFill v k)) (fun _ i _ => n - (intOf i).toNat)
  case atStart => exact ⟨0, ao1, cap1, _, Nat.zero_le _, rfl, rfl, hw1, hb1, by show _ = _; rw [H1.out]; simp [wFill]⟩
  case round =>
    clear hw1 hb1
    obtain ⟨k, ao', cap', cs, hk, rfl, rfl, hw', hbel, HB⟩ := hrel
    have hlen : cs.length ≤ bs.length + 23 + 8 * k := by rw [HB.out, List.length_append, wFill_length]; omega
    have hws := hbel.size
    by_cases hlt : k < n
    · have HB2 : Hid (cs ++ bitsN v 8 = wLength bs n ++ wFill v (k + 1)) := by
        show _ = _
        rw [HB.out, wFill, List.append_assoc]
      clear HB
      go_wp2_with (go_at_call 20; refine (put_wr base ao' cap' 8 v cs wr hw' (by omega) (by omega) (by omega) (by omega)).mono ?_; rintro e w2 ⟨ao2, cap2, c2, rfl, hw2, hb2, H2⟩)
      go_roundw
      case rel => exact ⟨k + 1, ao2, cap2, _, by omega, by go_num, rfl, hw2, hbel.trans hb2, by show _ = _; rw [H2.out]; exact HB2.out⟩
      case measure => simp [intOf]; omega
    · obtain rfl : k = n := by omega
      have HB2 : Hid (cs = wOpen bs k v) := HB.out
      clear HB
      go_wp2
      go_ret
      exact ⟨_, _, _, rfl, hw', hbel, HB2⟩

end Go.Proofs.Qxb6002696a
