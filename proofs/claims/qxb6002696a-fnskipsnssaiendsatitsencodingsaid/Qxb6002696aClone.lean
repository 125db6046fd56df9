/- The clones: 'zzCloneU32' (12), 'zzCloneBools' (16), 'zzCloneU16' (17), 'zzCloneBytes' (18). -/
import Derived.Test.Qxb6002696aBase
namespace Go.Proofs.Qxb6002696a
open Go.RowKit

/-- What the clone's own row holds after k rounds. -/
def half (xs : List Value) (z : Value) (k : Nat) : List Value := xs.take k ++ List.replicate (xs.length - k) z
theorem half_length (xs : List Value) (z : Value) (k : Nat) (h : k ≤ xs.length) : (half xs z k).length = xs.length := by
  simp [half]; omega
theorem half_zero (xs : List Value) (z : Value) : half xs z 0 = List.replicate xs.length z := by simp [half]
theorem half_all (xs : List Value) (z : Value) : half xs z xs.length = xs := by simp [half]
theorem half_succ (xs : List Value) (z u : Value) (k : Nat) (h : xs[k]? = some u) : (half xs z k).set k u = half xs z (k + 1) := by
  obtain ⟨hk, rfl⟩ := List.getElem?_eq_some_iff.1 h
  apply List.ext_getElem?
  intro j
  simp only [half, List.getElem?_set, List.getElem?_append, List.length_take, List.length_append, List.length_replicate, List.getElem?_take, List.getElem?_replicate]
  by_cases h1 : k = j
  · subst h1
    have a1 : k < min (k + 1) xs.length := by omega
    have a2 : k < min k xs.length + (xs.length - k) := by omega
    simp [a1, a2, hk]
  · simp only [h1, if_false]
    by_cases h2 : j < k
    · have : j < min k xs.length := by omega
      have : j < min (k + 1) xs.length := by omega
      have : j < k + 1 := by omega
      simp [*]
    · have a1 : ¬ j < min k xs.length := by omega
      have a2 : ¬ j < min (k + 1) xs.length := by omega
      simp only [a1, a2, if_false]
      by_cases h3 : j - min k xs.length < xs.length - k
      · rw [if_pos h3, if_pos (by omega)]
      · rw [if_neg h3, if_neg (by omega)]

/-- One round of a clone, outside the walk: the cell that is read, the cell that is written, and what stands behind the store. -/
theorem clone_step {e : TypeId} {z : Value} {xs : List Value} {len k : Nat} {x : Addr} {w wr : World} (hl : xs.length = len) (hlt : k < len) (hc : ∀ j u, xs[j]? = some u → w.cell? (x.add j) = some u)
    (hown : wr.ownsRow w.heap.size e 1 (.slice (some ⟨w.heap.size, 0, none⟩) len len) len (half xs z k)) (hb : Below w.heap.size w wr) :
    ∃ u old, u ∈ xs ∧ wr.cell? (x.add k) = some u ∧ wr.cell? ⟨w.heap.size, k, none⟩ = some old ∧ wr.frozen? ⟨w.heap.size, k, none⟩ = false ∧
      (wr.setCell ⟨w.heap.size, k, none⟩ u).ownsRow w.heap.size e 1 (.slice (some ⟨w.heap.size, 0, none⟩) len len) len (half xs z (k + 1)) ∧ Below w.heap.size w (wr.setCell ⟨w.heap.size, k, none⟩ u) := by
  have hkx : k < xs.length := by omega
  have hx : xs[k]? = some xs[k] := List.getElem?_eq_getElem hkx
  have hcw := hc k _ hx
  have hhl := half_length xs z k (by omega)
  have hco : wr.cell? ⟨w.heap.size, k, none⟩ = (half xs z k)[k]? := hown.cellAt k (by omega)
  rw [List.getElem?_eq_getElem (by omega)] at hco
  have R := hown.stored k xs[k]
  rw [half_succ xs _ _ k hx] at R
  exact ⟨xs[k], _, List.getElem_mem hkx, (hb.cell (World.block_lt_of_cell? w _ hcw)).trans hcw, hco, hown.frozenAt k, R.1, hb.setCell (Nat.le_refl _) _⟩

set_option maxHeartbeats 1000000 in
theorem clone12 (a : Option Addr) (len cap : Nat) (xs : List Value) (w : World) (h : Came w a len xs) (hlen : len ≤ 1048576) (hsh : ∀ u ∈ xs, ∃ n, u = .int .u32 n) :
    Calls Try.prog 12 #[.slice a len cap] w fun e w' => ∃ v, e = .returned v ∧ w'.ownsRow w.heap.size 25 1 v len xs ∧ Below w.heap.size w w' := by
  obtain ⟨hl, ⟨rfl, rfl⟩ | ⟨x, rfl, hc⟩⟩ := h
  · obtain rfl : xs = [] := List.eq_nil_of_length_eq_zero hl
    have hk := fun w a n c => Lib.run_eql_slice_nil (P := Try.prog) w 22 25 a n c 0 0 Try.underlying22
    go_enter Try.func12, Try.ntmps12
    go_wp2
    go_ret
    exact ⟨_, rfl, World.ownsRow_nil _ _ _ _, Below.refl _ _⟩
  · obtain ⟨i0, hi, hz0, hz1, hz2⟩ := info_parts Try.info25
    have hk := fun w a n c => Lib.run_eql_slice_nil (P := Try.prog) w 22 25 a n c 0 0 Try.underlying22
    go_enter Try.func12, Try.ntmps12
    go_wp2_with (first | (at_make; refine wpList_make_full _ rfl _ _ 22 rfl w.heap.size 25 i0 (.int .u32 0) 1 Try.underlying22 hi hz0 hz1 _ _ _ _ len rfl rfl rfl rfl ?_ ?_ ?_ ?_) | go_in)
    · rw [hz2]; omega
    · unfold maxLen; omega
    · exact Nat.le_refl _
    · intro w1 hown hgrow
      have hown0 : w1.ownsRow w.heap.size 25 1 (.slice (some ⟨w.heap.size, 0, none⟩) len len) len (half xs (.int .u32 0) 0) := by
        rw [half_zero, hl, ← toList_madeCells_one]; simpa using hown
      clear hown
      have HL : Hid (xs.length = len) := hl
      clear hl
      go_wp2
      go_loopw [4] (fun i wr => ∃ k : Nat, k ≤ len ∧ i = .int .i64 k ∧ wr.ownsRow w.heap.size 25 1 (.slice (some ⟨w.heap.size, 0, none⟩) len len) len (half xs (.int .u32 0) k) ∧ Below w.heap.size w wr) (fun i _ => len - (intOf i).toNat)
      case atStart => exact ⟨0, Nat.zero_le _, rfl, hown0, (Below.refl _ _).grown hgrow (Nat.le_refl _) (by simp)⟩
      case round =>
        obtain ⟨k, hk1, rfl, hown, hb⟩ := hrel
        by_cases hlt : k < len
        · obtain ⟨u, old, hu, hcx, hco, hfo, R1, R2⟩ := clone_step HL.out hlt hc hown hb
          obtain ⟨n, rfl⟩ := hsh u hu
          clear hown hu hown0 hgrow
          go_wp2
          go_roundw
          case rel => exact ⟨k + 1, by omega, by go_num, R1, R2⟩
          case measure => simp [intOf]; omega
        · go_wp2
          go_ret
          have : k = len := by omega
          subst this
          rw [← HL.out] at hown
          rw [half_all, HL.out] at hown
          exact ⟨_, rfl, hown, hb⟩

set_option maxHeartbeats 1000000 in
theorem clone16 (a : Option Addr) (len cap : Nat) (xs : List Value) (w : World) (h : Came w a len xs) (hlen : len ≤ 1048576) (hsh : ∀ u ∈ xs, ∃ n, u = .bool n) :
    Calls Try.prog 16 #[.slice a len cap] w fun e w' => ∃ v, e = .returned v ∧ w'.ownsRow w.heap.size 4 1 v len xs ∧ Below w.heap.size w w' := by
  obtain ⟨hl, ⟨rfl, rfl⟩ | ⟨x, rfl, hc⟩⟩ := h
  · obtain rfl : xs = [] := List.eq_nil_of_length_eq_zero hl
    have hk := fun w a n c => Lib.run_eql_slice_nil (P := Try.prog) w 32 4 a n c 0 0 Try.underlying32
    go_enter Try.func16, Try.ntmps16
    go_wp2
    go_ret
    exact ⟨_, rfl, World.ownsRow_nil _ _ _ _, Below.refl _ _⟩
  · obtain ⟨i0, hi, hz0, hz1, hz2⟩ := info_parts Try.info4
    have hk := fun w a n c => Lib.run_eql_slice_nil (P := Try.prog) w 32 4 a n c 0 0 Try.underlying32
    go_enter Try.func16, Try.ntmps16
    go_wp2_with (first | (at_make; refine wpList_make_full _ rfl _ _ 32 rfl w.heap.size 4 i0 (.bool false) 1 Try.underlying32 hi hz0 hz1 _ _ _ _ len rfl rfl rfl rfl ?_ ?_ ?_ ?_) | go_in)
    · rw [hz2]; omega
    · unfold maxLen; omega
    · exact Nat.le_refl _
    · intro w1 hown hgrow
      have hown0 : w1.ownsRow w.heap.size 4 1 (.slice (some ⟨w.heap.size, 0, none⟩) len len) len (half xs (.bool false) 0) := by
        rw [half_zero, hl, ← toList_madeCells_one]; simpa using hown
      clear hown
      have HL : Hid (xs.length = len) := hl
      clear hl
      go_wp2
      go_loopw [4] (fun i wr => ∃ k : Nat, k ≤ len ∧ i = .int .i64 k ∧ wr.ownsRow w.heap.size 4 1 (.slice (some ⟨w.heap.size, 0, none⟩) len len) len (half xs (.bool false) k) ∧ Below w.heap.size w wr) (fun i _ => len - (intOf i).toNat)
      case atStart => exact ⟨0, Nat.zero_le _, rfl, hown0, (Below.refl _ _).grown hgrow (Nat.le_refl _) (by simp)⟩
      case round =>
        obtain ⟨k, hk1, rfl, hown, hb⟩ := hrel
        by_cases hlt : k < len
        · obtain ⟨u, old, hu, hcx, hco, hfo, R1, R2⟩ := clone_step HL.out hlt hc hown hb
          obtain ⟨n, rfl⟩ := hsh u hu
          clear hown hu hown0 hgrow
          go_wp2
          go_roundw
          case rel => exact ⟨k + 1, by omega, by go_num, R1, R2⟩
          case measure => simp [intOf]; omega
        · go_wp2
          go_ret
          have : k = len := by omega
          subst this
          rw [← HL.out] at hown
          rw [half_all, HL.out] at hown
          exact ⟨_, rfl, hown, hb⟩

set_option maxHeartbeats 1000000 in
theorem clone17 (a : Option Addr) (len cap : Nat) (xs : List Value) (w : World) (h : Came w a len xs) (hlen : len ≤ 1048576) (hsh : ∀ u ∈ xs, ∃ n, u = .int .u16 n) :
    Calls Try.prog 17 #[.slice a len cap] w fun e w' => ∃ v, e = .returned v ∧ w'.ownsRow w.heap.size 36 1 v len xs ∧ Below w.heap.size w w' := by
  obtain ⟨hl, ⟨rfl, rfl⟩ | ⟨x, rfl, hc⟩⟩ := h
  · obtain rfl : xs = [] := List.eq_nil_of_length_eq_zero hl
    have hk := fun w a n c => Lib.run_eql_slice_nil (P := Try.prog) w 33 36 a n c 0 0 Try.underlying33
    go_enter Try.func17, Try.ntmps17
    go_wp2
    go_ret
    exact ⟨_, rfl, World.ownsRow_nil _ _ _ _, Below.refl _ _⟩
  · obtain ⟨i0, hi, hz0, hz1, hz2⟩ := info_parts Try.info36
    have hk := fun w a n c => Lib.run_eql_slice_nil (P := Try.prog) w 33 36 a n c 0 0 Try.underlying33
    go_enter Try.func17, Try.ntmps17
    go_wp2_with (first | (at_make; refine wpList_make_full _ rfl _ _ 33 rfl w.heap.size 36 i0 (.int .u16 0) 1 Try.underlying33 hi hz0 hz1 _ _ _ _ len rfl rfl rfl rfl ?_ ?_ ?_ ?_) | go_in)
    · rw [hz2]; omega
    · unfold maxLen; omega
    · exact Nat.le_refl _
    · intro w1 hown hgrow
      have hown0 : w1.ownsRow w.heap.size 36 1 (.slice (some ⟨w.heap.size, 0, none⟩) len len) len (half xs (.int .u16 0) 0) := by
        rw [half_zero, hl, ← toList_madeCells_one]; simpa using hown
      clear hown
      have HL : Hid (xs.length = len) := hl
      clear hl
      go_wp2
      go_loopw [4] (fun i wr => ∃ k : Nat, k ≤ len ∧ i = .int .i64 k ∧ wr.ownsRow w.heap.size 36 1 (.slice (some ⟨w.heap.size, 0, none⟩) len len) len (half xs (.int .u16 0) k) ∧ Below w.heap.size w wr) (fun i _ => len - (intOf i).toNat)
      case atStart => exact ⟨0, Nat.zero_le _, rfl, hown0, (Below.refl _ _).grown hgrow (Nat.le_refl _) (by simp)⟩
      case round =>
        obtain ⟨k, hk1, rfl, hown, hb⟩ := hrel
        by_cases hlt : k < len
        · obtain ⟨u, old, hu, hcx, hco, hfo, R1, R2⟩ := clone_step HL.out hlt hc hown hb
          obtain ⟨n, rfl⟩ := hsh u hu
          clear hown hu hown0 hgrow
          go_wp2
          go_roundw
          case rel => exact ⟨k + 1, by omega, by go_num, R1, R2⟩
          case measure => simp [intOf]; omega
        · go_wp2
          go_ret
          have : k = len := by omega
          subst this
          rw [← HL.out] at hown
          rw [half_all, HL.out] at hown
          exact ⟨_, rfl, hown, hb⟩

set_option maxHeartbeats 1000000 in
theorem clone18 (a : Option Addr) (len cap : Nat) (xs : List Value) (w : World) (h : Came w a len xs) (hlen : len ≤ 1048576) (hsh : ∀ u ∈ xs, ∃ n, u = .int .u8 n) :
    Calls Try.prog 18 #[.slice a len cap] w fun e w' => ∃ v, e = .returned v ∧ w'.ownsRow w.heap.size 5 1 v len xs ∧ Below w.heap.size w w' := by
  obtain ⟨hl, ⟨rfl, rfl⟩ | ⟨x, rfl, hc⟩⟩ := h
  · obtain rfl : xs = [] := List.eq_nil_of_length_eq_zero hl
    have hk := fun w a n c => Lib.run_eql_slice_nil (P := Try.prog) w 34 5 a n c 0 0 Try.underlying34
    go_enter Try.func18, Try.ntmps18
    go_wp2
    go_ret
    exact ⟨_, rfl, World.ownsRow_nil _ _ _ _, Below.refl _ _⟩
  · obtain ⟨i0, hi, hz0, hz1, hz2⟩ := info_parts Try.info5
    have hk := fun w a n c => Lib.run_eql_slice_nil (P := Try.prog) w 34 5 a n c 0 0 Try.underlying34
    go_enter Try.func18, Try.ntmps18
    go_wp2_with (first | (at_make; refine wpList_make_full _ rfl _ _ 34 rfl w.heap.size 5 i0 (.int .u8 0) 1 Try.underlying34 hi hz0 hz1 _ _ _ _ len rfl rfl rfl rfl ?_ ?_ ?_ ?_) | go_in)
    · rw [hz2]; omega
    · unfold maxLen; omega
    · exact Nat.le_refl _
    · intro w1 hown hgrow
      have hown0 : w1.ownsRow w.heap.size 5 1 (.slice (some ⟨w.heap.size, 0, none⟩) len len) len (half xs (.int .u8 0) 0) := by
        rw [half_zero, hl, ← toList_madeCells_one]; simpa using hown
      clear hown
      have HL : Hid (xs.length = len) := hl
      clear hl
      go_wp2
      go_loopw [4] (fun i wr => ∃ k : Nat, k ≤ len ∧ i = .int .i64 k ∧ wr.ownsRow w.heap.size 5 1 (.slice (some ⟨w.heap.size, 0, none⟩) len len) len (half xs (.int .u8 0) k) ∧ Below w.heap.size w wr) (fun i _ => len - (intOf i).toNat)
      case atStart => exact ⟨0, Nat.zero_le _, rfl, hown0, (Below.refl _ _).grown hgrow (Nat.le_refl _) (by simp)⟩
      case round =>
        obtain ⟨k, hk1, rfl, hown, hb⟩ := hrel
        by_cases hlt : k < len
        · obtain ⟨u, old, hu, hcx, hco, hfo, R1, R2⟩ := clone_step HL.out hlt hc hown hb
          obtain ⟨n, rfl⟩ := hsh u hu
          clear hown hu hown0 hgrow
          go_wp2
          go_roundw
          case rel => exact ⟨k + 1, by omega, by go_num, R1, R2⟩
          case measure => simp [intOf]; omega
        · go_wp2
          go_ret
          have : k = len := by omega
          subst this
          rw [← HL.out] at hown
          rw [half_all, HL.out] at hown
          exact ⟨_, rfl, hown, hb⟩

end Go.Proofs.Qxb6002696a
