/- zzPack (21): the bits packed into bytes. -/
import Derived.Test.Qxb6002696aEnc
namespace Go.Proofs.Qxb6002696a
open Go.RowKit
set_option linter.unusedVariables false

def u8v (b : Nat) : Value := .int .u8 (b : Int)
def bitAt (by' : List Nat) (i : Nat) : Bool := (by'[i / 8]?.getD 0).testBit (7 - i % 8)
/-- After k rounds the bytes hold the first k bits, and nothing else. -/
def Packs (by' : List Nat) (bs : List Bool) (k : Nat) : Prop := (∀ b ∈ by', b < 256) ∧ ∀ i, bitAt by' i = ((bs.take k)[i]?.getD false)

theorem take_get (bs : List Bool) (k i : Nat) : (bs.take k)[i]?.getD false = (decide (i < k) && bs[i]?.getD false) := by
  rw [List.getElem?_take]
  by_cases h : i < k <;> simp [h]

theorem packs_zero (n : Nat) (bs : List Bool) : Packs (List.replicate n 0) bs 0 := by
  refine ⟨fun b hb => by rw [List.eq_of_mem_replicate hb]; decide, fun i => ?_⟩
  unfold bitAt
  rw [List.getElem?_replicate]
  split <;> simp

theorem packs_false {by' : List Nat} {bs : List Bool} {k : Nat} (h : Packs by' bs k) (hb : bs[k]? = some false) : Packs by' bs (k + 1) := by
  refine ⟨h.1, fun i => ?_⟩
  rw [h.2 i, take_get, take_get]
  by_cases h1 : i < k
  · simp [h1, show i < k + 1 by omega]
  · by_cases h2 : i = k
    · subst h2; simp [hb]
    · simp [h1, show ¬ i < k + 1 by omega]

theorem packs_true {by' : List Nat} {bs : List Bool} {k x : Nat} (h : Packs by' bs k) (hb : bs[k]? = some true) (hx : by'[k / 8]? = some x) :
    Packs (by'.set (k / 8) (x ||| 2 ^ (7 - k % 8))) bs (k + 1) ∧ x ||| 2 ^ (7 - k % 8) < 256 := by
  have hx256 : x < 256 := h.1 x (List.mem_of_getElem? hx)
  have hp : 2 ^ (7 - k % 8) < 2 ^ 8 := Nat.pow_lt_pow_right (by decide) (by omega)
  have hlt : x ||| 2 ^ (7 - k % 8) < 256 := Nat.or_lt_two_pow (n := 8) (by omega) hp
  refine ⟨⟨fun b hb' => ?_, fun i => ?_⟩, hlt⟩
  · rcases List.mem_or_eq_of_mem_set hb' with h1 | h1
    · exact h.1 b h1
    · rw [h1]; exact hlt
  · have hkl : k / 8 < by'.length := (List.getElem?_eq_some_iff.1 hx).1
    have hi := h.2 i
    rw [take_get] at hi ⊢
    unfold bitAt at hi ⊢
    rw [List.getElem?_set]
    by_cases h8 : k / 8 = i / 8
    · rw [if_pos h8, if_pos (by omega)]
      rw [← h8, hx] at hi
      simp only [Option.getD_some] at hi ⊢
      rw [Nat.testBit_or, hi, Nat.testBit_two_pow]
      by_cases h1 : i < k
      · have : 7 - k % 8 ≠ 7 - i % 8 := by omega
        simp [h1, show i < k + 1 by omega, this]
      · by_cases h2 : i = k
        · subst h2; simp [hb]
        · have : 7 - k % 8 ≠ 7 - i % 8 := by omega
          simp [h1, show ¬ i < k + 1 by omega, this]
    · rw [if_neg h8, hi]
      have h2 : i ≠ k := fun e => h8 (by rw [e])
      by_cases h1 : i < k
      · simp [h1, show i < k + 1 by omega]
      · simp [h1, show ¬ i < k + 1 by omega]

theorem or_bit (x k : Nat) (hx : x < 256) : bits .or .u8 (x : Int) (2 ^ (7 - k % 8) % 256) = ((x ||| 2 ^ (7 - k % 8) : Nat) : Int) := by
  have hp : 2 ^ (7 - k % 8) < 256 := Nat.pow_lt_pow_right (a := 2) (m := 7 - k % 8) (n := 8) (by decide) (by omega)
  have e : (2 : Int) ^ (7 - k % 8) % 256 = ((2 ^ (7 - k % 8) : Nat) : Int) := by
    rw [show (2 : Int) ^ (7 - k % 8) = ((2 ^ (7 - k % 8) : Nat) : Int) by simp]
    generalize 2 ^ (7 - k % 8) = y at *
    omega
  rw [e, u8_or_nat x _ hx hp]

set_option maxRecDepth 100000 in
set_option maxHeartbeats 600000 in
theorem pack_wr (ao : Option Addr) (cap n len : Nat) (bs : List Bool) (w : World) (h : At w w.heap.size ao (bs.map bv)) (HN : Hid (bs.length = len)) (hl : len ≤ 10000000) (hn : 8 * n ≤ len + 7) (hn2 : len ≤ 8 * n) :
    Calls Try.prog 21 #[.slice ao len cap] w fun e w' => ∃ by' : List Nat, e = .returned (.slice (some ⟨w.heap.size, 0, none⟩) n n) ∧ w'.ownsRow w.heap.size 5 1 (.slice (some ⟨w.heap.size, 0, none⟩) n n) n (by'.map u8v) ∧ Packs by' bs len ∧ Below w.heap.size w w' := by
  obtain ⟨i0, hi, hz0, hz1, hz2⟩ := info_parts Try.info5
  have hq : ((len : Int) + 7) / 8 = (n : Int) := by omega
  go_enter Try.func21, Try.ntmps21
  go_wp2_with (first | (at_make; refine wpList_make_full _ rfl _ _ 34 rfl w.heap.size 5 i0 (.int .u8 0) 1 Try.underlying34 hi hz0 hz1 _ _ _ _ n rfl rfl (by first | rfl | exact hq) (by first | rfl | exact hq) ?_ ?_ ?_ ?_) | go_in)
  · rw [hz2]; omega
  · unfold maxLen; omega
  · exact Nat.le_refl _
  · intro w1 hown hgrow
    have hown0 : w1.ownsRow w.heap.size 5 1 (.slice (some ⟨w.heap.size, 0, none⟩) n n) n ((List.replicate n 0).map u8v) := by
      have e : ((List.replicate n 0).map u8v) = (madeCells #[Value.int .u8 0] n).toList := by
        rw [toList_madeCells_one, List.map_replicate]
        rfl
      rw [e]; simpa using hown
    have hb1 : Below w.heap.size w w1 := (Below.refl _ _).grown hgrow (Nat.le_refl _) (by simp)
    clear hown
    have hw1 := h.below hb1
    clear hq
    go_wp2
    go_loopw [4] (fun i wr => ∃ (k : Nat) (by' : List Nat), k ≤ len ∧ i = .int .i64 (k : Int) ∧ wr.ownsRow w.heap.size 5 1 (.slice (some ⟨w.heap.size, 0, none⟩) n n) n (by'.map u8v) ∧ Packs by' bs k ∧ Below w.heap.size w wr) (fun i _ => len - (intOf i).toNat)
    case atStart => exact ⟨0, _, Nat.zero_le _, rfl, hown0, packs_zero n bs, hb1⟩
    case round =>
      clear hown0 hw1 hb1
      obtain ⟨k, by', hk, rfl, hown, hpk, hbel⟩ := hrel
      by_cases hlt : k < len
      · have hkb : k < bs.length := by rw [HN.out]; exact hlt
        obtain ⟨g, hap, hgp, hcp⟩ := (h.below hbel) k (bv bs[k]) (by simp [List.getElem?_eq_getElem hkb])
        have hbk : bs[k]? = some bs[k] := List.getElem?_eq_getElem hkb
        have HBK : Hid (bs[k]? = some bs[k]) := hbk
        clear hbk
        generalize bs[k] = b at *
        subst hap
        cases b
        · have HP : Hid (Packs by' bs (k + 1)) := packs_false hpk HBK.out
          have hcp0 : wr.cell? ⟨g, k, none⟩ = some (.int .u8 0) := hcp
          clear hpk HBK hcp
          go_wp2
          go_roundw
          case rel => exact ⟨k + 1, by', by omega, by go_num, hown, HP.out, hbel⟩
          case measure => simp [intOf]; omega
        · have hcp0 : wr.cell? ⟨g, k, none⟩ = some (.int .u8 1) := hcp
          have hlen : by'.length = n := by have := hown.1; simpa using this
          have hk8 : k / 8 < by'.length := by omega
          have hxx : by'[k / 8]? = some by'[k / 8] := List.getElem?_eq_getElem hk8
          have hco : wr.cell? ⟨w.heap.size, k / 8, none⟩ = some (.int .u8 ((by'[k / 8] : Nat) : Int)) := by
            rw [hown.cellAt (k / 8) (by omega)]
            simp [hxx, u8v]
          have hfo := hown.frozenAt (k / 8)
          obtain ⟨hP1, hP2⟩ := packs_true hpk HBK.out hxx
          have hst := hown.stored (k / 8) (u8v (by'[k / 8] ||| 2 ^ (7 - k % 8)))
          have hx256 := hpk.1 _ (List.mem_of_getElem? hxx)
          rw [← List.map_set] at hst
          have HP : Hid (Packs (by'.set (k / 8) (by'[k / 8] ||| 2 ^ (7 - k % 8))) bs (k + 1)) := hP1
          have HX : Hid (by'[k / 8]? = some by'[k / 8]) := hxx
          clear hP1 hpk HBK hcp hlen hxx
          go_wp2
          have hor := or_bit by'[k / 8] k hx256
          go_roundw
          case rel =>
            rw [hor]
            exact ⟨k + 1, _, by omega, by go_num, hst.1, HP.out, hbel.setCell (by exact Nat.le_refl _) _⟩
          case measure => simp [intOf]; omega
      · obtain rfl : k = len := by omega
        go_wp2
        go_ret
        exact ⟨_, rfl, hown, hpk, hbel⟩
end Go.Proofs.Qxb6002696a
