/- The reader, more: octets (42), aligned (44), length (40), openType (41). -/
import Derived.Test.Qxb6002696aRead
namespace Go.Proofs.Qxb6002696a
open Go.RowKit
set_option linter.unusedVariables false

/-! ### no position runs away -/
def Bd (len : Nat) (s : St) : Prop := s.1 ≤ 8 * len + 8
theorem al_mod (p : Nat) : al p % 8 = 0 := by unfold al; omega
theorem Bd.align {len : Nat} {s : St} (h : Bd len s) : Bd len (rAlign s) := by unfold Bd rAlign al at *; simp only; omega
theorem Bd.bits {len : Nat} {s : St} (h : Bd len s) (f : Nat → Bool) (n : Nat) : Bd len (rBits f (8 * len) n s).2 := by
  unfold Bd rBits at *
  split
  · exact h
  · rename_i hn; simp only; omega
theorem Bd.octets {len : Nat} {s : St} (h : Bd len s) (n : Nat) : Bd len (rOctets (8 * len) n s) := by
  unfold Bd rOctets al at *
  split
  · simp only; omega
  · rename_i hn; simp only; omega
theorem Bd.length {len : Nat} {s : St} (h : Bd len s) (f : Nat → Bool) : Bd len (rLength f (8 * len) s).2 := by
  unfold rLength rAligned
  have h1 : Bd len (rBits f (8 * len) 8 (rAlign s)).2 := h.align.bits f 8
  simp only
  split
  · exact h1
  · split
    · exact h1.bits f 8
    · exact h1
theorem rBits_lt (f : Nat → Bool) (L n : Nat) (s : St) : (rBits f L n s).1 < 2 ^ n := by
  unfold rBits
  split
  · exact Nat.two_pow_pos n
  · exact val_lt f s.1 n
theorem rLength_lt (f : Nat → Bool) (L : Nat) (s : St) : (rLength f L s).1 < 16384 := by
  unfold rLength rAligned
  simp only
  split
  · omega
  · split
    · have := rBits_lt f L 8 (rBits f L 8 (rAlign s)).2
      omega
    · simp

set_option maxHeartbeats 1000000 in
theorem octets_any (r g len cap n : Nat) (s : St) (w : World) (hb : w.heap[r]? = some (rdCells g len cap s)) (hp : Bd len s) (hl : len ≤ 1000000) (hcap : len ≤ cap) (hn : n ≤ 100000) :
    Calls Try.prog 42 #[.pointer (some ⟨r, 0, none⟩), .int .i64 n] w fun e w' => ∃ v, e = .returned v ∧ RdTo w w' r g len cap (rOctets (8 * len) n s) := by
  unfold Bd at hp
  have hal : al s.1 ≤ 8 * len + 8 := by unfold al; omega
  have hmod := al_mod s.1
  unfold rOctets
  cases hs : s.2
  · by_cases ho : 8 * len < al s.1 + 8 * n
    · rw [if_pos (.inr ho)]
      go_enter Try.func42, Try.ntmps42
      go_wp2_with fail
      refine (align_any r g len cap s w hb (by omega)).mono ?_
      rintro e w1 ⟨rfl, hto⟩
      obtain ⟨c0, c1, c2, z0⟩ := rd_cells hto.1
      simp only [rAlign] at c1 c2
      rw [hs] at c2
      have ho2 : (len : Int) - (al s.1 : Int) / 8 < (n : Int) := by omega
      go_wp2
      go_quiet (fail)
      go_wp2
      go_ret
      exact ⟨_, rfl, hto.trans (RdTo.bad hto.1 _)⟩
    · rw [if_neg (by simp [ho])]
      have e1 : ((al s.1 + 8 * n : Nat) : Int) = (al s.1 : Int) + (n : Int) * 8 := by omega
      by_cases hc : cap = al s.1 / 8
      all_goals
        try subst hc
        go_enter Try.func42, Try.ntmps42
        go_wp2_with fail
        refine (align_any r g len _ s w hb (by omega)).mono ?_
        rintro e w1 ⟨rfl, hto⟩
        obtain ⟨c0, c1, c2, z0⟩ := rd_cells hto.1
        simp only [rAlign] at c1 c2
        rw [hs] at c2
        have HR : ∀ q, RdTo w ((w1.drewN q).setCell ⟨r, 1, none⟩ (.int .i64 ((al s.1 : Int) + (n : Int) * 8))) r g len _ (al s.1 + 8 * n, false) := fun q => by
          have := hto.trans (RdTo.pos hto.1 q (al s.1 + 8 * n))
          rw [e1] at this
          simp only [rAlign, hs] at this
          exact this
        have HE : Hid (((al s.1 + 8 * n : Nat) : Int) = (al s.1 : Int) + (n : Int) * 8) := e1
        clear e1
        have ho2 : ¬ (len : Int) - (al s.1 : Int) / 8 < (n : Int) := by omega
        have ho3 : (al s.1 : Int) / 8 + (n : Int) ≤ (len : Int) := by omega
        go_wp2
        go_quiet (fail)
        go_wp2
        go_quiet (fail)
        go_wp2
        go_ret
        exact ⟨_, rfl, HR _⟩
  · rw [if_pos (.inl rfl)]
    go_enter Try.func42, Try.ntmps42
    go_wp2_with fail
    refine (align_any r g len cap s w hb (by omega)).mono ?_
    rintro e w1 ⟨rfl, hto⟩
    obtain ⟨c0, c1, c2, z0⟩ := rd_cells hto.1
    simp only [rAlign] at c1 c2
    rw [hs] at c2
    go_wp2
    go_quiet (fail)
    go_wp2
    go_ret
    exact ⟨_, rfl, hto.trans (RdTo.bad hto.1 _)⟩
/-- What every contract of the reader asks of the world: the reader's block, its bounds, the bytes. -/
structure Rd (w : World) (r g len cap : Nat) (B : Nat → Nat) (s : St) : Prop where
  cells : w.heap[r]? = some (rdCells g len cap s)
  bd : Bd len s
  small : len ≤ 1000000
  room : len ≤ cap
  bytes : Bytes w g len B
  apart : g ≠ r
theorem Rd.le {w : World} {r g len cap : Nat} {B : Nat → Nat} {s : St} (h : Rd w r g len cap B s) : s.1 ≤ 1000000000 := by
  have := h.bd; have := h.small; unfold Bd at *; omega
theorem Rd.to {w w' : World} {r g len cap : Nat} {B : Nat → Nat} {s s' : St} (h : Rd w r g len cap B s) (ht : RdTo w w' r g len cap s') (hb : Bd len s') : Rd w' r g len cap B s' :=
  ⟨ht.1, hb, h.small, h.room, h.bytes.to h.apart ht, h.apart⟩

/-- 'bits', in these words. -/
theorem bits_rd (r g len cap n : Nat) (s : St) (B : Nat → Nat) (w : World) (h : Rd w r g len cap B s) (hn : n ≤ 16) :
    Calls Try.prog 39 #[.pointer (some ⟨r, 0, none⟩), .int .i64 n] w fun e w' => e = .returned (.int .u32 ((rBits (bitOf B) (8 * len) n s).1 : Int)) ∧ Rd w' r g len cap B (rBits (bitOf B) (8 * len) n s).2 ∧ w.grownBy w' (some r) :=
  (bits_any r g len cap n s B w h.cells h.le h.small hn h.bytes h.apart).mono fun e w' ⟨he, ht⟩ => ⟨he, h.to ht (h.bd.bits _ _), ht.2⟩
theorem octets_rd (r g len cap n : Nat) (s : St) (B : Nat → Nat) (w : World) (h : Rd w r g len cap B s) (hn : n ≤ 100000) :
    Calls Try.prog 42 #[.pointer (some ⟨r, 0, none⟩), .int .i64 n] w fun e w' => ∃ v, e = .returned v ∧ Rd w' r g len cap B (rOctets (8 * len) n s) ∧ w.grownBy w' (some r) :=
  (octets_any r g len cap n s w h.cells h.bd h.small h.room hn).mono fun e w' ⟨v, he, ht⟩ => ⟨v, he, h.to ht (h.bd.octets _), ht.2⟩
theorem align_rd (r g len cap : Nat) (s : St) (B : Nat → Nat) (w : World) (h : Rd w r g len cap B s) :
    Calls Try.prog 45 #[.pointer (some ⟨r, 0, none⟩)] w fun e w' => e = .returned (.tuple #[]) ∧ Rd w' r g len cap B (rAlign s) ∧ w.grownBy w' (some r) :=
  (align_any r g len cap s w h.cells h.le).mono fun e w' ⟨he, ht⟩ => ⟨he, h.to ht h.bd.align, ht.2⟩

set_option maxHeartbeats 400000 in
theorem aligned_rd (r g len cap n : Nat) (s : St) (B : Nat → Nat) (w : World) (h : Rd w r g len cap B s) (hn : n ≤ 16) :
    Calls Try.prog 44 #[.pointer (some ⟨r, 0, none⟩), .int .i64 n] w fun e w' => e = .returned (.int .u32 ((rAligned (bitOf B) (8 * len) n s).1 : Int)) ∧ Rd w' r g len cap B (rAligned (bitOf B) (8 * len) n s).2 ∧ w.grownBy w' (some r) := by
  unfold rAligned
  go_enter Try.func44, Try.ntmps44
  go_wp2_with fail
  refine (align_rd r g len cap s B w h).mono ?_
  rintro e w1 ⟨rfl, h1, g1⟩
  go_wp2_with fail
  refine (bits_rd r g len cap n _ B w1 h1 hn).mono ?_
  rintro e w2 ⟨rfl, h2, g2⟩
  go_wp2
  go_ret
  exact ⟨rfl, h2, g1.trans g2⟩

theorem ret_int {k : IntKind} {a b : Int} (h : a = b) : Ending.returned (.int k a) = .returned (.int k b) := by rw [h]
theorem i64_or_join (a b : Nat) (ha : a < 64) (hb : b < 256) : bits .or .i64 ((a : Int) * 256) (b : Int) = ((a * 256 + b : Nat) : Int) := by
  have e1 : (BitVec.ofInt 64 ((a : Int) * 256)).toNat = a * 256 := ofInt_u64 (a * 256) (by omega)
  have e2 : (BitVec.ofInt 64 (b : Int)).toNat = b := ofInt_u64 b (by omega)
  show IntKind.i64.wrap ((BitVec.ofInt 64 ((a : Int) * 256) ||| BitVec.ofInt 64 (b : Int)).toNat : Int) = _
  rw [BitVec.toNat_or, e1, e2, nat_join 8 (a * 256) b (by simp) (by simpa using hb), IntKind.wrap_i64]
  omega
theorem and128 (f : Nat) (h : f < 256) : (bits .and .u32 (f : Int) 128 == 0) = decide (f < 128) := by
  have := u32_and_nat f 128 (by omega) (by decide)
  have e : ((128 : Nat) : Int) = 128 := rfl
  rw [e] at this
  rw [this, show f &&& 128 = f / 128 % 2 * 128 from nat_bit 7 f, Bool.eq_iff_iff]
  simp
  omega
theorem and192_table : ∀ f : Fin 256, f.1 &&& 192 = f.1 / 64 * 64 := by decide +kernel
theorem and192 (f : Nat) (h : f < 256) : (bits .and .u32 (f : Int) 192 == 128) = decide (128 ≤ f ∧ f < 192) := by
  have := u32_and_nat f 192 (by omega) (by decide)
  have e : ((192 : Nat) : Int) = 192 := rfl
  rw [e] at this
  rw [this, show f &&& 192 = f / 64 * 64 from and192_table ⟨f, h⟩, Bool.eq_iff_iff]
  simp
  omega
theorem and63 (f : Nat) (h : f < 256) : bits .and .u32 (f : Int) 63 = ((f % 64 : Nat) : Int) := by
  have := u32_and_nat f 63 (by omega) (by decide)
  rw [nat_mask6] at this
  exact this

set_option maxHeartbeats 1000000 in
theorem length_rd (r g len cap : Nat) (s : St) (B : Nat → Nat) (w : World) (h : Rd w r g len cap B s) :
    Calls Try.prog 40 #[.pointer (some ⟨r, 0, none⟩)] w fun e w' => e = .returned (.int .i64 ((rLength (bitOf B) (8 * len) s).1 : Int)) ∧ Rd w' r g len cap B (rLength (bitOf B) (8 * len) s).2 ∧ w.grownBy w' (some r) := by
  have hlt : (rAligned (bitOf B) (8 * len) 8 s).1 < 256 := rBits_lt _ _ 8 _
  have hA := aligned_rd r g len cap 8 s B w h (by omega)
  have hbd : Bd len (rAligned (bitOf B) (8 * len) 8 s).2 := h.bd.align.bits _ _
  unfold rLength
  generalize rAligned (bitOf B) (8 * len) 8 s = q at *
  obtain ⟨f, s1⟩ := q
  simp only at *
  have t1 := and128 f hlt
  have t2 := and192 f hlt
  have t3 := and63 f hlt
  by_cases h1 : f < 128
  · rw [if_pos h1]
    simp only [h1, decide_true] at t1 ⊢
    go_enter Try.func40, Try.ntmps40
    go_wp2_with (go_at_call 44; refine hA.mono ?_; rintro e w1 ⟨rfl, h1, g1⟩)
    go_ret
    exact ⟨rfl, h1, g1⟩
  · rw [if_neg h1]
    simp only [h1, decide_false] at t1
    by_cases h2 : f < 192
    · rw [if_pos h2]
      have h3 : 128 ≤ f ∧ f < 192 := ⟨by omega, h2⟩
      simp only [h3, decide_true, and_self] at t2 ⊢
      have hq := rBits_lt (bitOf B) (8 * len) 8 s1
      have t4 : Hid (bits .or .i64 ((f : Int) % 64 * 256) ((rBits (bitOf B) (8 * len) 8 s1).1 : Int) = ((f % 64 * 256 + (rBits (bitOf B) (8 * len) 8 s1).1 : Nat) : Int)) := i64_or_join (f % 64) (rBits (bitOf B) (8 * len) 8 s1).1 (by omega) hq
      go_enter Try.func40, Try.ntmps40
      go_wp2_with fail
      refine hA.mono ?_
      rintro e w1 ⟨rfl, h1, g1⟩
      go_wp2_with fail
      refine (bits_rd r g len cap 8 s1 B w1 h1 (by omega)).mono ?_
      rintro e w2 ⟨rfl, h2, g2⟩
      go_wp2
      go_ret
      exact ⟨ret_int t4.out, h2, g1.trans g2⟩
    · rw [if_neg h2]
      have h3 : ¬ (128 ≤ f ∧ f < 192) := by omega
      simp only [h3, decide_false] at t2 ⊢
      go_enter Try.func40, Try.ntmps40
      go_wp2_with fail
      refine hA.mono ?_
      rintro e w1 ⟨rfl, h1, g1⟩
      obtain ⟨c0, c1, c2, z0⟩ := rd_cells h1.cells
      have hB2 := h1.to (RdTo.bad h1.cells 0) h1.bd
      have hg2 := (RdTo.bad h1.cells 0).2
      go_wp2
      go_ret
      exact ⟨rfl, hB2, g1.trans hg2⟩

set_option maxHeartbeats 400000 in
theorem open_rd (r g len cap : Nat) (s : St) (B : Nat → Nat) (w : World) (h : Rd w r g len cap B s) :
    Calls Try.prog 41 #[.pointer (some ⟨r, 0, none⟩)] w fun e w' => ∃ v, e = .returned v ∧ Rd w' r g len cap B (rOpen (bitOf B) (8 * len) s) ∧ w.grownBy w' (some r) := by
  unfold rOpen
  have hlt := rLength_lt (bitOf B) (8 * len) s
  go_enter Try.func41, Try.ntmps41
  go_wp2_with fail
  refine (length_rd r g len cap s B w h).mono ?_
  rintro e w1 ⟨rfl, h1, g1⟩
  go_wp2_with fail
  refine (octets_rd r g len cap _ _ B w1 h1 (by omega)).mono ?_
  rintro e w2 ⟨v, rfl, h2, g2⟩
  go_wp2
  go_ret
  exact ⟨_, rfl, h2, g1.trans g2⟩
end Go.Proofs.Qxb6002696a
