/- strIsBytes (12), qname (14), ZZRawAttrQname (11), zzBytes (8). -/
import Derived.Test.Qxb6603688aQBase
import Derived.Lib.Strings
namespace Go.Proofs.Qxb6603688a
open Go.RowKit
set_option linter.unusedVariables false

theorem below_drewN {B : Nat} {a w : World} (h : Below B a w) (n : Nat) : Below B a (w.drewN n) := ⟨h.os, h.tape, h.output, h.size, h.block⟩

theorem bytes8 (a0 a1 a2 : Option Addr) (l0 c0 l1 c1 l2 c2 : Nat) (w : World) (m0 : l0 ≤ 9223372036854775807) (m1 : l1 ≤ 9223372036854775807) (m2 : l2 ≤ 9223372036854775807) :
    Calls Try.prog 8 #[.slice a0 l0 c0, .slice a1 l1 c1, .slice a2 l2 c2] w fun e w' => ∃ b, e = .returned (.bool b) ∧ w = w' := by
  go_enter Try.func8, Try.ntmps8
  go_wp2
  all_goals
    go_ret
    exact ⟨_, rfl, rfl⟩

theorem get_of {s : ByteArray} {l : List UInt8} (h : s.data.toList = l) (k : Nat) (hk : k < s.size) (hl : k < l.length) : s[k] = l[k] := by
  subst h
  rfl

set_option maxHeartbeats 400000 in
theorem stris_any (s : ByteArray) (a : Option Addr) (len cap : Nat) (l : List UInt8) (w : World) (HS : Hid (s.data.toList = l)) (HL : Hid (l.length = len)) (hs1 : s.size ≤ len) (hs2 : len ≤ s.size) (hc : InAt w a l) (hlen : len ≤ 1048576) :
    Calls Try.prog 12 #[.string s, .slice a len cap] w fun e w' => e = .returned (.bool true) ∧ ∃ n, w' = w.drewN n := by
  have hne : ((s.size : Int) != (len : Int)) = false := by rw [bne_eq_false_iff_eq]; omega
  go_enter Try.func12, Try.ntmps12
  go_wp2
  go_loopw [5] (fun i wr => ∃ k : Nat, k ≤ len ∧ i = .int .i64 k ∧ ∃ n, wr = w.drewN n) (fun i _ => len - (intOf i).toNat)
  case atStart => exact ⟨0, Nat.zero_le _, rfl, 0, rfl⟩
  case round =>
    obtain ⟨k, hk, rfl, n, hwr⟩ := hrel
    subst hwr
    by_cases hlt : k < len
    · have hkl : k < l.length := by rw [HL.out]; exact hlt
      have hks : k < s.size := by omega
      obtain ⟨x, hax, hcx⟩ := hc k l[k] (List.getElem?_eq_getElem hkl)
      have hg := get_of HS.out k hks hkl
      rw [← hg] at hcx
      subst hax
      unfold u8b at hcx
      clear hg
      have hks2 : (k : Int) < (s.size : Int) := by omega
      go_wp2
      go_quiet (fail)
      go_wp2
      go_roundw
      case rel => exact ⟨k + 1, by omega, by go_num, _, rfl⟩
      case measure => simp [intOf]; omega
    · go_wp2
      go_ret
      exact ⟨rfl, _, rfl⟩

/-- 'string(b)', whatever the slice. -/
theorem conv_any (w : World) (a : Option Addr) (len cap : Nat) (l : List UInt8) (hl : l.length = len) (hc : InAt w a l) (hn : a = none → len = 0) : (convert 24 9 (.slice a len cap)).run Try.prog w = .ok (.string ⟨l.toArray⟩) w := by
  subst hl
  cases a with
  | none =>
    have h0 := hn rfl
    obtain rfl : l = [] := List.eq_nil_of_length_eq_zero h0
    exact run_convert_bytes_nil (P := Try.prog) (w := w) 24 5 Try.underlying24 Try.underlying5 0 cap 9 Try.underlying9
  | some x =>
    refine run_convert_bytes_back w 24 9 5 x cap l Try.underlying24 Try.underlying5 Try.underlying9 fun j hj => ?_
    obtain ⟨x', e, h⟩ := hc j l[j] (List.getElem?_eq_getElem hj)
    cases e
    exact h
theorem InAt.alloc {w : World} {a : Option Addr} {l : List UInt8} (h : InAt w a l) (o : Obj) : InAt (w.alloc o) a l := h.below ((Below.refl _ _).alloc (Nat.le_refl _) o)

set_option maxHeartbeats 400000 in
theorem qname_nil (a1 a2 : Option Addr) (n1 c1 n2 c2 : Nat) (l : List UInt8) (w : World) (HL : Hid (l.length = n1)) (h1 : InAt w a1 l) (hn : a1 = none → n1 = 0) :
    Calls Try.prog 14 #[.agg #[.slice none 0 0, .slice a1 n1 c1, .slice a2 n2 c2]] w fun e w' => e = .returned (.string ⟨l.toArray⟩) ∧ Below w.heap.size w w' := by
  have hcv := fun o => conv_any (w.alloc o) a1 n1 c1 l HL.out (h1.alloc o) hn
  have hk := fun w a n c => Lib.run_eql_slice_nil (P := Try.prog) w 24 5 a n c 0 0 Try.underlying24
  go_enter Try.func14, Try.ntmps14
  go_wp2
  go_ret
  exact ⟨rfl, (Below.refl _ _).alloc (Nat.le_refl _) _⟩

theorem ret_str {a b : ByteArray} (h : a = b) : Ending.returned (.string a) = .returned (.string b) := by rw [h]
theorem join_is (p l : List UInt8) : (({ data := p.toArray } : ByteArray) ++ ({ data := #[58] } : ByteArray) ++ ({ data := l.toArray } : ByteArray)) = { data := (p ++ 58 :: l).toArray } := by
  apply ByteArray.ext
  simp [ByteArray.data_append]

set_option maxHeartbeats 400000 in
theorem qname_some (x : Addr) (a1 a2 : Option Addr) (n0 c0 n1 c1 n2 c2 : Nat) (p l : List UInt8) (w : World) (HP : Hid (p.length = n0)) (HL : Hid (l.length = n1)) (h0 : InAt w (some x) p) (h1 : InAt w a1 l) (hn : a1 = none → n1 = 0) (hl0 : n0 ≤ 1048576) (hl1 : n1 ≤ 1048576) :
    Calls Try.prog 14 #[.agg #[.slice (some x) n0 c0, .slice a1 n1 c1, .slice a2 n2 c2]] w fun e w' => e = .returned (.string ⟨(p ++ 58 :: l).toArray⟩) ∧ Below w.heap.size w w' := by
  have hcv := fun o => conv_any (w.alloc o) a1 n1 c1 l HL.out (h1.alloc o) hn
  have hcp := fun o => conv_any (w.alloc o) (some x) n0 c0 p HP.out (h0.alloc o) (by simp)
  have hk := fun w a n c => Lib.run_eql_slice_nil (P := Try.prog) w 24 5 a n c 0 0 Try.underlying24
  have hpl : p.length ≤ 1048576 := by rw [HP.out]; exact hl0
  have hll : l.length ≤ 1048576 := by rw [HL.out]; exact hl1
  go_enter Try.func14, Try.ntmps14
  go_wp2
  go_ret
  exact ⟨ret_str (join_is p l), (Below.refl _ _).alloc (Nat.le_refl _) _⟩

theorem zzqname_nil (a1 a2 : Option Addr) (n1 c1 n2 c2 : Nat) (l : List UInt8) (w : World) (HL : Hid (l.length = n1)) (h1 : InAt w a1 l) (hn : a1 = none → n1 = 0) :
    Calls Try.prog 11 #[.slice none 0 0, .slice a1 n1 c1, .slice a2 n2 c2] w fun e w' => e = .returned (.string ⟨l.toArray⟩) ∧ Below w.heap.size w w' := by
  go_enter Try.func11, Try.ntmps11
  go_wp2_with fail
  refine (qname_nil a1 a2 n1 c1 n2 c2 l w HL h1 hn).mono ?_
  rintro e w1 ⟨rfl, hb⟩
  go_wp2
  go_ret
  exact ⟨rfl, hb⟩
theorem zzqname_some (x : Addr) (a1 a2 : Option Addr) (n0 c0 n1 c1 n2 c2 : Nat) (p l : List UInt8) (w : World) (HP : Hid (p.length = n0)) (HL : Hid (l.length = n1)) (h0 : InAt w (some x) p) (h1 : InAt w a1 l) (hn : a1 = none → n1 = 0) (hl0 : n0 ≤ 1048576) (hl1 : n1 ≤ 1048576) :
    Calls Try.prog 11 #[.slice (some x) n0 c0, .slice a1 n1 c1, .slice a2 n2 c2] w fun e w' => e = .returned (.string ⟨(p ++ 58 :: l).toArray⟩) ∧ Below w.heap.size w w' := by
  go_enter Try.func11, Try.ntmps11
  go_wp2_with fail
  refine (qname_some x a1 a2 n0 c0 n1 c1 n2 c2 p l w HP HL h0 h1 hn hl0 hl1).mono ?_
  rintro e w1 ⟨rfl, hb⟩
  go_wp2
  go_ret
  exact ⟨rfl, hb⟩
end Go.Proofs.Qxb6603688a
