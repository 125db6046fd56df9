/- The reader's own small functions: align (45), bits (39), octets (42). -/
import Derived.Test.Qxb6002696aBase
import Derived.Test.Qxb6002696aPlain
import Derived.Deep.QuietTactic
import Derived.BigQuiet
import Derived.RegionTactic
import Derived.Deep.RegionHeld3
import Derived.Deep.LoopGhost
namespace Go.Proofs.Qxb6002696a
open Go.RowKit
set_option linter.unusedVariables false

/-! ### bits of ints -/
theorem i64_andNot7 (p : Nat) (h : p ≤ 1000000000000) : bits .andNot .i64 ((p : Int) + 7) 7 = ((al p : Nat) : Int) := by
  have e1 : (BitVec.ofInt 64 ((p : Int) + 7)).toNat = p + 7 := ofInt_u64 (p + 7) (by omega)
  show IntKind.i64.wrap ((BitVec.ofInt 64 ((p : Int) + 7) &&& ~~~BitVec.ofInt 64 (7 : Int)).toNat : Int) = _
  have e2 : (~~~BitVec.ofInt 64 (7 : Int)).toNat = 18446744073709551608 := by decide
  rw [BitVec.toNat_and, e1, e2, nat_hi64_3, IntKind.wrap_i64]
  unfold al
  omega

/-! ### the reader in memory -/
def rdCells (g len cap : Nat) (s : St) : Obj := .cells #[.slice (some ⟨g, 0, none⟩) len cap, .int .i64 (s.1 : Int), .bool s.2] 58 (0, 0)

theorem rd_cells {w : World} {r g len cap : Nat} {s : St} (hb : w.heap[r]? = some (rdCells g len cap s)) :
    w.cell? ⟨r, 0, none⟩ = some (.slice (some ⟨g, 0, none⟩) len cap) ∧ w.cell? ⟨r, 1, none⟩ = some (.int .i64 (s.1 : Int)) ∧ w.cell? ⟨r, 2, none⟩ = some (.bool s.2) ∧ ∀ j, w.frozen? ⟨r, j, none⟩ = false := by
  unfold rdCells at hb
  refine ⟨?_, ?_, ?_, fun j => ?_⟩ <;> simp [World.cell?, World.frozen?, hb]

theorem heap_setCell_same {w : World} {b i : Nat} {cs : Array Value} {e : TypeId} {fz : Nat × Nat} (h : w.heap[b]? = some (.cells cs e fz)) (u : Value) : (w.setCell ⟨b, i, none⟩ u).heap[b]? = some (.cells (cs.setIfInBounds i u) e fz) := by
  have hlt : b < w.heap.size := (Array.getElem?_eq_some_iff.1 h).1
  have h' : w.heap[b] = .cells cs e fz := by simpa [Array.getElem?_eq_getElem hlt] using h
  show (w.heap.modify b _)[b]? = _
  rw [Array.getElem?_eq_getElem (by simpa using hlt), Array.getElem_modify_self, h']
  rfl

theorem grown_setCell (w : World) (b i : Nat) (u : Value) : w.grownBy (w.setCell ⟨b, i, none⟩ u) (some b) :=
  ⟨rfl, rfl, rfl, by simp, fun k _ hk => Below.heap_setCell _ _ _ _ (fun e => hk (by rw [e]))⟩
theorem grown_drewN (w : World) (n : Nat) (row : Option Nat) : w.grownBy (w.drewN n) row := ⟨rfl, rfl, rfl, Nat.le_refl _, fun _ _ _ => rfl⟩

/-- The reader behind a step: its new state; nothing but its own block has turned. -/
def RdTo (w w' : World) (r g len cap : Nat) (s : St) : Prop := w'.heap[r]? = some (rdCells g len cap s) ∧ w.grownBy w' (some r)

theorem RdTo.bad {w : World} {r g len cap : Nat} {s : St} (hb : w.heap[r]? = some (rdCells g len cap s)) (n : Nat) : RdTo w ((w.drewN n).setCell ⟨r, 2, none⟩ (.bool true)) r g len cap (s.1, true) := by
  refine ⟨?_, (grown_drewN w n _).trans (grown_setCell _ _ _ _)⟩
  unfold rdCells at hb
  exact heap_setCell_same (w := w.drewN n) hb _
theorem RdTo.pos {w : World} {r g len cap : Nat} {s : St} (hb : w.heap[r]? = some (rdCells g len cap s)) (n p : Nat) : RdTo w ((w.drewN n).setCell ⟨r, 1, none⟩ (.int .i64 (p : Int))) r g len cap (p, s.2) := by
  refine ⟨?_, (grown_drewN w n _).trans (grown_setCell _ _ _ _)⟩
  unfold rdCells at hb
  exact heap_setCell_same (w := w.drewN n) hb _
theorem RdTo.trans {w w1 w2 : World} {r g len cap : Nat} {s s' : St} (h : RdTo w w1 r g len cap s) (h' : RdTo w1 w2 r g len cap s') : RdTo w w2 r g len cap s' := ⟨h'.1, h.2.trans h'.2⟩

/-- The bytes in memory, and the bit at a place. -/
def Bytes (w : World) (g len : Nat) (B : Nat → Nat) : Prop := (∀ j, j < len → w.cell? ⟨g, j, none⟩ = some (.int .u8 (B j : Int))) ∧ ∀ j, B j < 256
def bitOf (B : Nat → Nat) (i : Nat) : Bool := (B (i / 8)).testBit (7 - i % 8)
theorem Bytes.to {w w' : World} {g len cap r : Nat} {B : Nat → Nat} {s : St} (h : Bytes w g len B) (hr : g ≠ r) (h' : RdTo w w' r g len cap s) : Bytes w' g len B :=
  ⟨fun j hj => h'.2.cell (h.1 j hj) (by intro e; cases e; exact hr rfl), h.2⟩

set_option maxHeartbeats 400000 in
theorem align_any (r g len cap : Nat) (s : St) (w : World) (hb : w.heap[r]? = some (rdCells g len cap s)) (hp : s.1 ≤ 1000000000) :
    Calls Try.prog 45 #[.pointer (some ⟨r, 0, none⟩)] w fun e w' => e = .returned (.tuple #[]) ∧ RdTo w w' r g len cap (rAlign s) := by
  obtain ⟨c0, c1, c2, z0⟩ := rd_cells hb
  have HB : Hid (w.heap[r]? = some (rdCells g len cap s)) := hb
  have HA := i64_andNot7 s.1 (by omega)
  clear hb
  go_enter Try.func45, Try.ntmps45
  go_wp2
  go_end0
  exact ⟨rfl, RdTo.pos HB.out 0 (al s.1)⟩

set_option maxHeartbeats 400000 in
theorem bits_bad (r g len cap n : Nat) (s : St) (w : World) (hb : w.heap[r]? = some (rdCells g len cap s)) (hs : s.2 = true) :
    Calls Try.prog 39 #[.pointer (some ⟨r, 0, none⟩), .int .i64 n] w fun e w' => e = .returned (.int .u32 0) ∧ RdTo w w' r g len cap (s.1, true) := by
  obtain ⟨c0, c1, c2, z0⟩ := rd_cells hb
  have HB : Hid (w.heap[r]? = some (rdCells g len cap s)) := hb
  rw [hs] at c2
  clear hb hs
  go_enter Try.func39, Try.ntmps39
  go_wp2
  go_quiet (fail)
  go_wp2
  go_ret
  exact ⟨rfl, RdTo.bad HB.out _⟩

set_option maxHeartbeats 400000 in
theorem bits_over (r g len cap n : Nat) (s : St) (w : World) (hb : w.heap[r]? = some (rdCells g len cap s)) (hs : s.2 = false) (hp : s.1 ≤ 1000000000) (hl : len ≤ 1000000) (hn : n ≤ 16) (hov : 8 * len < s.1 + n) :
    Calls Try.prog 39 #[.pointer (some ⟨r, 0, none⟩), .int .i64 n] w fun e w' => e = .returned (.int .u32 0) ∧ RdTo w w' r g len cap (s.1, true) := by
  obtain ⟨c0, c1, c2, z0⟩ := rd_cells hb
  have HB : Hid (w.heap[r]? = some (rdCells g len cap s)) := hb
  rw [hs] at c2
  clear hb hs
  have ho : (len : Int) * 8 - (s.1 : Int) < (n : Int) := by omega
  go_enter Try.func39, Try.ntmps39
  go_wp2
  go_quiet (fail)
  go_wp2
  go_ret
  exact ⟨rfl, RdTo.bad HB.out _⟩

theorem next_val (B : Nat → Nat) (p k : Nat) (hk : k ≤ 15) (hb : B ((p + k) / 8) < 256) :
    bits .or .u32 ((val (bitOf B) p k : Int) * 2 % 4294967296) (bits .and .u8 ((B ((p + k) / 8) : Int) / 2 ^ (7 - (p + k) % 8)) 1 % 4294967296) = (val (bitOf B) p (k + 1) : Int) := by
  have hv : val (bitOf B) p k < 65536 := Nat.lt_of_lt_of_le (val_lt (bitOf B) p k) (Nat.le_trans (Nat.pow_le_pow_right (by omega) (show k ≤ 16 by omega)) (by decide))
  have e1 : ((B ((p + k) / 8) : Int) / 2 ^ (7 - (p + k) % 8)) = ((B ((p + k) / 8) / 2 ^ (7 - (p + k) % 8) : Nat) : Int) := by simp
  have hd : B ((p + k) / 8) / 2 ^ (7 - (p + k) % 8) < 256 := Nat.lt_of_le_of_lt (Nat.div_le_self _ _) hb
  have e2 : bits .and .u8 ((B ((p + k) / 8) : Int) / 2 ^ (7 - (p + k) % 8)) 1 = ((B ((p + k) / 8) / 2 ^ (7 - (p + k) % 8) % 2 : Nat) : Int) := by
    rw [e1]
    have := u8_and_nat (B ((p + k) / 8) / 2 ^ (7 - (p + k) % 8)) 1 hd (by decide)
    rw [nat_mask1] at this
    exact this
  rw [e2]
  have hbit : (bitOf B (p + k)).toNat = B ((p + k) / 8) / 2 ^ (7 - (p + k) % 8) % 2 := by
    unfold bitOf
    rw [Nat.testBit_eq_decide_div_mod_eq]
    have h2 := Nat.mod_lt (B ((p + k) / 8) / 2 ^ (7 - (p + k) % 8)) (show 2 > 0 by decide)
    by_cases h : B ((p + k) / 8) / 2 ^ (7 - (p + k) % 8) % 2 = 1
    · simp [h]
    · have h0 : B ((p + k) / 8) / 2 ^ (7 - (p + k) % 8) % 2 = 0 := by omega
      simp [h0]
  rw [val, hbit]
  have h2 := Nat.mod_lt (B ((p + k) / 8) / 2 ^ (7 - (p + k) % 8)) (show 2 > 0 by decide)
  generalize B ((p + k) / 8) / 2 ^ (7 - (p + k) % 8) % 2 = y at *
  generalize val (bitOf B) p k = x at *
  have ex : ((x : Int) * 2 % 4294967296) = ((2 * x : Nat) : Int) := by omega
  have ey : ((y : Int) % 4294967296) = (y : Int) := by omega
  rw [ex, ey, u32_or_nat _ _ (by omega) (by omega), nat_join 1 (2 * x) y (by simp) (by simpa using h2)]

set_option maxHeartbeats 1000000 in
theorem bits_in (r g len cap n : Nat) (s : St) (B : Nat → Nat) (w : World) (hb : w.heap[r]? = some (rdCells g len cap s)) (hs : s.2 = false) (hp : s.1 ≤ 1000000000) (hl : len ≤ 1000000) (hn : n ≤ 16) (hin : s.1 + n ≤ 8 * len)
    (hB : Bytes w g len B) (hr : g ≠ r) :
    Calls Try.prog 39 #[.pointer (some ⟨r, 0, none⟩), .int .i64 n] w fun e w' => e = .returned (.int .u32 (val (bitOf B) s.1 n : Int)) ∧ RdTo w w' r g len cap (s.1 + n, false) := by
  obtain ⟨c0, c1, c2, z0⟩ := rd_cells hb
  have HB : Hid (w.heap[r]? = some (rdCells g len cap s)) := hb
  rw [hs] at c2
  obtain ⟨p, b0⟩ := s
  simp only at *
  subst hs
  clear hb
  have ho : ¬ (len : Int) * 8 - (p : Int) < (n : Int) := by omega
  have hod : decide ((len : Int) * 8 - (p : Int) < (n : Int)) = false := by simp; omega
  go_enter Try.func39, Try.ntmps39
  go_wp2
  go_quiet (fail)
  go_wp2
  go_loopw [5, 29] (fun v c wr => ∃ k : Nat, k ≤ n ∧ c = .int .i64 k ∧ v = .int .u32 (val (bitOf B) p k : Int) ∧ RdTo w wr r g len cap (p + k, false)) (fun _ c _ => n - (intOf c).toNat)
  case atStart => exact ⟨0, Nat.zero_le _, rfl, rfl, HB.out, grown_drewN _ _ _⟩
  case round =>
    obtain ⟨k, hk, rfl, rfl, hto⟩ := hrel
    clear c0 c1 c2 z0
    obtain ⟨c0, c1, c2, z0⟩ := rd_cells hto.1
    by_cases hlt : k < n
    · have hcb := (hB.to hr hto).1 ((p + k) / 8) (by omega)
      have hvl := val_lt (bitOf B) p k
      have hb2 := hB.2 ((p + k) / 8)
      go_wp2
      go_quiet (fail)
      go_wp2
      have HN := next_val B p k (by omega) hb2
      have HR := hto.trans (RdTo.pos hto.1 nq (p + k + 1))
      have e1 : ((p + k + 1 : Nat) : Int) = (p : Int) + (k : Int) + 1 := by omega
      rw [e1] at HR
      go_roundw
      case rel => exact ⟨k + 1, by omega, by go_num, by rw [HN], HR⟩
      case measure => simp [intOf]; omega
    · obtain rfl : k = n := by omega
      go_wp2
      go_ret
      exact ⟨rfl, hto⟩

/-- THE CONTRACT of 'bits'. -/
theorem bits_any (r g len cap n : Nat) (s : St) (B : Nat → Nat) (w : World) (hb : w.heap[r]? = some (rdCells g len cap s)) (hp : s.1 ≤ 1000000000) (hl : len ≤ 1000000) (hn : n ≤ 16) (hB : Bytes w g len B) (hr : g ≠ r) :
    Calls Try.prog 39 #[.pointer (some ⟨r, 0, none⟩), .int .i64 n] w fun e w' => e = .returned (.int .u32 ((rBits (bitOf B) (8 * len) n s).1 : Int)) ∧ RdTo w w' r g len cap (rBits (bitOf B) (8 * len) n s).2 := by
  unfold rBits
  cases hs : s.2
  · by_cases ho : 8 * len < s.1 + n
    · rw [if_pos (.inr ho)]
      exact bits_over r g len cap n s w hb hs hp hl hn ho
    · rw [if_neg (by simp [ho])]
      exact bits_in r g len cap n s B w hb hs hp hl hn (by omega) hB hr
  · rw [if_pos (.inl rfl)]
    exact bits_bad r g len cap n s w hb hs
end Go.Proofs.Qxb6002696a
