/- Bytes in memory, clones, and the small functions of the law on qname: cloneBytes (10), hasColonByte (9), strIsBytes (12), zzBytes (8). -/
import Derived.Test.Qxb6603688aRows
import Derived.WalkKit
import Derived.WalkLawsBesides
import Derived.WalkSpells
import Derived.Below
import Derived.Laws.IdiomStrings
import Derived.Laws.BytesArg
import Derived.Deep.QuietTactic
import Derived.BigQuiet
namespace Go.Proofs.Qxb6603688a
open Go.RowKit
set_option linter.unusedVariables false

def u8b (b : UInt8) : Value := .int .u8 (b.toNat : Int)
theorem Try.info5 : (Try.prog.info? 5).map (fun i => (i.zero, i.size, i.bytes)) = some (some (.int .u8 0), 1, 1) := by kernel_rfl

/-- A slice of bytes, told cell by cell (nil where there is no cell). -/
def InAt (w : World) (a : Option Addr) (l : List UInt8) : Prop := ∀ j b, l[j]? = some b → ∃ x, a = some x ∧ w.cell? (x.add j) = some (u8b b)
theorem InAt.below {w w' : World} {a : Option Addr} {l : List UInt8} (h : InAt w a l) (hb : Below w.heap.size w w') : InAt w' a l := by
  intro j b hj
  obtain ⟨x, rfl, hc⟩ := h j b hj
  exact ⟨x, rfl, (hb.cell (World.block_lt_of_cell? w _ hc)).trans hc⟩
theorem InAt.drewN {w : World} {a : Option Addr} {l : List UInt8} (h : InAt w a l) (n : Nat) : InAt (w.drewN n) a l := h

/-- What the clone's own row holds after k rounds. -/
def half (l : List UInt8) (k : Nat) : List Value := (l.take k).map u8b ++ List.replicate (l.length - k) (.int .u8 0)
theorem half_length (l : List UInt8) (k : Nat) (h : k ≤ l.length) : (half l k).length = l.length := by
  simp [half]; omega
theorem half_zero (l : List UInt8) : half l 0 = List.replicate l.length (.int .u8 0) := by simp [half]
theorem half_all (l : List UInt8) : half l l.length = l.map u8b := by simp [half]
theorem half_succ (l : List UInt8) (k : Nat) (h : k < l.length) : (half l k).set k (u8b l[k]) = half l (k + 1) := by
  unfold half
  rw [List.take_succ_eq_append_getElem h, List.map_append, List.append_assoc, List.set_append_right _ _ (by simp; omega)]
  congr 1
  have e : l.length - k = (l.length - (k + 1)) + 1 := by omega
  have e2 : k - (List.map u8b (List.take k l)).length = 0 := by simp; omega
  rw [e, e2, List.replicate_succ, List.set_cons_zero]
  rfl

theorem clone_step {l : List UInt8} {len k : Nat} {x : Addr} {w wr : World} (hl : l.length = len) (hlt : k < len) (hc : InAt w (some x) l)
    (hown : wr.ownsRow w.heap.size 5 1 (.slice (some ⟨w.heap.size, 0, none⟩) len len) len (half l k)) (hb : Below w.heap.size w wr) :
    ∃ (n : Int) (old : Value), wr.cell? (x.add k) = some (.int .u8 n) ∧ wr.cell? ⟨w.heap.size, k, none⟩ = some old ∧ wr.frozen? ⟨w.heap.size, k, none⟩ = false ∧
      (wr.setCell ⟨w.heap.size, k, none⟩ (.int .u8 n)).ownsRow w.heap.size 5 1 (.slice (some ⟨w.heap.size, 0, none⟩) len len) len (half l (k + 1)) ∧ Below w.heap.size w (wr.setCell ⟨w.heap.size, k, none⟩ (.int .u8 n)) := by
  have hkx : k < l.length := by omega
  obtain ⟨x', hx', hcw⟩ := hc k l[k] (List.getElem?_eq_getElem hkx)
  cases hx'
  have hhl := half_length l k (by omega)
  have hco : wr.cell? ⟨w.heap.size, k, none⟩ = (half l k)[k]? := hown.cellAt k (by omega)
  rw [List.getElem?_eq_getElem (by omega)] at hco
  have R := hown.stored k (u8b l[k])
  rw [half_succ l k hkx] at R
  exact ⟨_, _, (hb.cell (World.block_lt_of_cell? w _ hcw)).trans hcw, hco, hown.frozenAt k, R.1, hb.setCell (Nat.le_refl _) _⟩

theorem clone_nil (cap : Nat) (w : World) : Calls Try.prog 10 #[.slice none 0 cap] w fun e w' => e = .returned (.slice none 0 0) ∧ w = w' := by
  have hk := fun w a n c => Lib.run_eql_slice_nil (P := Try.prog) w 24 5 a n c 0 0 Try.underlying24
  go_enter Try.func10, Try.ntmps10
  go_wp2
  go_ret
  exact ⟨rfl, rfl⟩

set_option maxRecDepth 100000 in
set_option maxHeartbeats 400000 in
theorem clone_some (x : Addr) (len cap : Nat) (l : List UInt8) (w : World) (hl : l.length = len) (hc : InAt w (some x) l) (hlen : len ≤ 1048576) :
    Calls Try.prog 10 #[.slice (some x) len cap] w fun e w' => e = .returned (.slice (some ⟨w.heap.size, 0, none⟩) len len) ∧ InAt w' (some ⟨w.heap.size, 0, none⟩) l ∧ Below w.heap.size w w' := by
  obtain ⟨i0, hi, hz0, hz1, hz2⟩ := info_parts Try.info5
  have hk := fun w a n c => Lib.run_eql_slice_nil (P := Try.prog) w 24 5 a n c 0 0 Try.underlying24
  go_enter Try.func10, Try.ntmps10
  go_wp2_with (first | (at_make; refine wpList_make_full _ rfl _ _ 24 rfl w.heap.size 5 i0 (.int .u8 0) 1 Try.underlying24 hi hz0 hz1 _ _ _ _ len rfl rfl rfl rfl ?_ ?_ ?_ ?_) | go_in)
  · rw [hz2]; omega
  · unfold maxLen; omega
  · exact Nat.le_refl _
  · intro w1 hown hgrow
    have hown0 : w1.ownsRow w.heap.size 5 1 (.slice (some ⟨w.heap.size, 0, none⟩) len len) len (half l 0) := by
      rw [half_zero, hl, ← toList_madeCells_one]; simpa using hown
    clear hown
    have HL : Hid (l.length = len) := hl
    clear hl
    go_wp2
    go_loopw [4] (fun i wr => ∃ k : Nat, k ≤ len ∧ i = .int .i64 k ∧ wr.ownsRow w.heap.size 5 1 (.slice (some ⟨w.heap.size, 0, none⟩) len len) len (half l k) ∧ Below w.heap.size w wr) (fun i _ => len - (intOf i).toNat)
    case atStart => exact ⟨0, Nat.zero_le _, rfl, hown0, (Below.refl _ _).grown hgrow (Nat.le_refl _) (by simp)⟩
    case round =>
      obtain ⟨k, hk1, rfl, hown, hb⟩ := hrel
      by_cases hlt : k < len
      · obtain ⟨n, old, hcx, hco, hfo, R1, R2⟩ := clone_step HL.out hlt hc hown hb
        clear hown hown0 hgrow
        go_wp2
        go_roundw
        case rel => exact ⟨k + 1, by omega, by go_num, R1, R2⟩
        case measure => simp [intOf]; omega
      · go_wp2
        go_ret
        have : k = len := by omega
        subst this
        rw [← HL.out] at hown
        rw [half_all, HL.out] at hown
        refine ⟨rfl, fun j b hj => ⟨_, rfl, ?_⟩, hb⟩
        have hjl := (List.getElem?_eq_some_iff.1 hj).1
        rw [Addr.add_lit, Nat.zero_add, hown.cellAt j (by have := HL.out; omega), List.getElem?_map, hj]
        rfl

/-- The clone, whatever came in. -/
theorem clone_any (a : Option Addr) (len cap : Nat) (l : List UInt8) (w : World) (hl : l.length = len) (hc : InAt w a l) (hn : a = none → len = 0) (hlen : len ≤ 1048576) :
    Calls Try.prog 10 #[.slice a len cap] w fun e w' => ∃ a' cap', e = .returned (.slice a' len cap') ∧ InAt w' a' l ∧ (a' = none ↔ a = none) ∧ Below w.heap.size w w' := by
  cases a with
  | none =>
    obtain rfl : len = 0 := hn rfl
    refine (clone_nil cap w).mono fun e w' ⟨he, hw⟩ => ?_
    subst hw
    exact ⟨none, 0, he, fun j b hj => hc j b hj, Iff.rfl, Below.refl _ _⟩
  | some x => exact (clone_some x len cap l w hl hc hlen).mono fun e w' ⟨he, h1, h2⟩ => ⟨_, _, he, h1, by simp, h2⟩

/-- No colon among the first k. -/
def NoCol (l : List UInt8) (k : Nat) : Prop := ∀ i, i < k → l[i]? ≠ some 58
theorem NoCol.succ {l : List UInt8} {k : Nat} {b : UInt8} (h : NoCol l k) (hb : l[k]? = some b) (hne : b ≠ 58) : NoCol l (k + 1) := by
  intro i hi e
  by_cases h1 : i = k
  · subst h1; rw [hb] at e; cases e; exact hne rfl
  · exact h i (by omega) e
theorem NoCol.not_mem {l : List UInt8} {k : Nat} (h : NoCol l k) (hk : l.length ≤ k) : (58 : UInt8) ∉ l := by
  intro hm
  obtain ⟨i, hi⟩ := List.mem_iff_getElem?.1 hm
  have := (List.getElem?_eq_some_iff.1 hi).1
  exact h i (by omega) hi
theorem byte_58 (b : UInt8) : ((b.toNat : Int) == 58) = decide (b = 58) := by
  rw [Bool.eq_iff_iff]
  simp
  constructor
  · intro h
    have : b.toNat = 58 := by omega
    exact UInt8.toNat_inj.1 (by rw [this]; rfl)
  · rintro rfl; rfl

def ColPost (l : List UInt8) (e : Ending) : Prop := ∃ b, e = .returned (.bool b) ∧ (b = false → (58 : UInt8) ∉ l)

set_option maxHeartbeats 400000 in
theorem colon_any (a : Option Addr) (len cap : Nat) (l : List UInt8) (w : World) (HL : Hid (l.length = len)) (hc : InAt w a l) (hlen : len ≤ 1048576) :
    Calls Try.prog 9 #[.slice a len cap] w fun e w' => ColPost l e ∧ w = w' := by
  go_enter Try.func9, Try.ntmps9
  go_wp2
  go_loop [3] (fun i => ∃ k : Nat, k ≤ len ∧ i = .int .i64 k ∧ NoCol l k) (fun i => len - (intOf i).toNat)
  case atStart => exact ⟨0, Nat.zero_le _, rfl, fun i hi => by omega⟩
  case round =>
    obtain ⟨k, hk, rfl, hno⟩ := hrel
    by_cases hlt : k < len
    · have hkl : k < l.length := by rw [HL.out]; exact hlt
      obtain ⟨x, hax, hcx⟩ := hc k l[k] (List.getElem?_eq_getElem hkl)
      have HB : Hid (l[k]? = some l[k]) := List.getElem?_eq_getElem hkl
      generalize l[k] = b at *
      subst hax
      unfold u8b at hcx
      have h58 := byte_58 b
      by_cases hb : b = 58
      · simp only [hb, decide_true] at h58
        rw [← hb] at h58
        clear hno HB
        go_wp2
        go_ret
        exact ⟨⟨true, rfl, fun h => by cases h⟩, rfl⟩
      · simp only [hb, decide_false] at h58
        have HN : Hid (NoCol l (k + 1)) := hno.succ HB.out hb
        clear hno HB
        go_wp2
        go_round
        case rel => exact ⟨k + 1, by omega, by go_num, HN.out⟩
        case measure => simp [intOf]; omega
    · have hnm := hno.not_mem (by rw [HL.out]; omega)
      clear hno
      go_wp2
      go_ret
      exact ⟨⟨false, rfl, fun _ => hnm⟩, rfl⟩
end Go.Proofs.Qxb6603688a
