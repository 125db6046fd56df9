/- 'FnTsnLogSeenIsEarlierOccurrence' (3): the walk. -/
import Derived.Test.Qxb6002696aClone
import Derived.Test.Qxb6002696aSeen
namespace Go.Proofs.Qxb6002696a
open Go.RowKit Go.Maps
set_option linter.unusedVariables false

theorem bytes11 (a : Option Addr) (len cap : Nat) (w : World) (hm : len ≤ 9223372036854775807) :
    Calls Try.prog 11 #[.slice a len cap] w fun e w' => e = .returned (.bool (decide (len ≤ 1048576))) ∧ w = w' := by
  by_cases h : len ≤ 1048576
  · go_enter Try.func11, Try.ntmps11
    go_wp2
    go_ret
    exact ⟨by simp [h], rfl⟩
  · go_enter Try.func11, Try.ntmps11
    go_wp2
    go_ret
    exact ⟨by simp [h], rfl⟩

theorem new_log (w : World) : Log (w.alloc (.cells #[.bool false, .int .u32 0, .int .u32 0, .map none] 28)) w.heap.size 0 [] :=
  .inl ⟨heap_alloc_new w _, rfl⟩

/-- The contract of 'ZZTsnSeen' at a known answer. -/
theorem zzseen_is (b N : Nat) (S : List Int) (t : Int) (v : Bool) (w : World) (ht : R32 t) (h : Log w b N S) (hN : N ≤ 1000000) (hv : decide (t ∈ S) = v) :
    Calls Try.prog 13 #[.pointer (some ⟨b, 0, none⟩), .int .u32 t] w fun e w' => e = .returned (.bool v) ∧ Log w' b (N + 1) (t :: S) ∧ Below b w w' := by
  subst hv
  exact zzseen_any b N S t ht w h hN

/-- The numbers fed so far, the last first. -/
def fed (zs : List Int) (k : Nat) : List Int := (zs.take k).reverse
theorem fed_succ (zs : List Int) (k : Nat) (h : k < zs.length) : fed zs (k + 1) = zs[k]?.getD 0 :: fed zs k := by
  unfold fed
  rw [List.take_succ_eq_append_getElem h, List.reverse_append, List.getElem?_eq_getElem h]
  rfl
theorem mem_fed (zs : List Int) (k : Nat) (t : Int) : t ∈ fed zs k ↔ ∃ j, j < k ∧ zs[j]? = some t := by
  unfold fed
  rw [List.mem_reverse, List.mem_iff_getElem?]
  simp only [List.getElem?_take]
  constructor
  · rintro ⟨j, hj⟩
    by_cases h : j < k
    · exact ⟨j, h, by simpa [h] using hj⟩
    · simp [h] at hj
  · rintro ⟨j, h, hj⟩
    exact ⟨j, by simpa [h] using hj⟩

theorem no_more {zs : List Int} {len m : Nat} {t : Int} (hl : zs.length = len) (hm : m < len) (hno : ∀ i, i < m → zs[i]? ≠ some t) (hne : zs[m]?.getD 0 ≠ t) : ∀ i, i < m + 1 → zs[i]? ≠ some t := by
  intro i hi
  by_cases h : i = m
  · subst h
    intro e
    rw [e] at hne
    exact hne rfl
  · exact hno i (by omega)
theorem was_there {zs : List Int} {len m k : Nat} {t : Int} (hl : zs.length = len) (hk : k < len) (hm : m < k) (he : zs[m]?.getD 0 = t) : decide (t ∈ fed zs k) = true := by
  rw [decide_eq_true_eq, mem_fed]
  refine ⟨m, hm, ?_⟩
  have hml : m < zs.length := by omega
  rw [List.getElem?_eq_getElem hml] at he ⊢
  rw [← he]; rfl
theorem was_not {zs : List Int} {k : Nat} {t : Int} (hno : ∀ i, i < k → zs[i]? ≠ some t) : decide (t ∈ fed zs k) = false := by
  rw [decide_eq_false_iff_not, mem_fed]
  rintro ⟨j, hj, e⟩
  exact hno j hj e

theorem Log.drewN {w : World} {b N : Nat} {S : List Int} (h : Log w b N S) (n : Nat) : Log (w.drewN n) b N S := h

set_option maxHeartbeats 1000000 in
theorem fn3_walk (a : Option Addr) (len cap : Nat) (zs : List Int) (w : World) (h : Came w a len (zs.map (Value.int .u32))) (hr : ∀ z ∈ zs, R32 z) (hm : len ≤ 9223372036854775807) :
    Calls Try.prog 3 #[.slice a len cap] w fun e w' => e = .returned (.bool true) ∧ Below w.heap.size w w' := by
  by_cases h1 : len ≤ 1048576
  · by_cases h2 : len ≤ 2048
    · have hB := bytes11 a len cap w hm
      simp only [h1, decide_true] at hB
      have h2d : decide ((2048 : Int) < (len : Int)) = false := by simp; omega
      go_enter Try.func3, Try.ntmps3
      go_wp2_with fail
      refine hB.mono ?_
      rintro e w' ⟨rfl, rfl⟩
      clear hB
      go_wp2_with fail
      refine (clone12 a len cap _ _ h h1 (by intro u hu; obtain ⟨z, _, rfl⟩ := List.mem_map.1 hu; exact ⟨z, rfl⟩)).mono ?_
      rintro e w1 ⟨v, rfl, hown, hb1⟩
      have hlen := h.1
      rcases hown.2 with ⟨hv, h0⟩ | ⟨g, cap', cur, hv, hg, hcur, hj1, hj2, hj3, hj4⟩
      · subst hv h0
        go_wp2
        refine wp_loop_rounds 1 ?_
        rw [rounds_succ]
        go_wp2
        go_ret
        exact ⟨rfl, hb1.alloc hb1.size _⟩
      · subst hv
        have hcell : ∀ j, j < len → w1.cell? ⟨g, j, none⟩ = some (.int .u32 (zs[j]?.getD 0)) := fun j hj => by
          have hj' : j < zs.length := by simpa using (by omega : j < (zs.map (Value.int .u32)).length)
          rw [hown.cellAt j (by omega)]
          simp [List.getElem?_eq_getElem hj']
        have hgl : g < w1.heap.size := (Array.getElem?_eq_some_iff.1 hcur).1
        have HL : Hid (zs.length = len) := (by simpa using hlen : zs.length = len)
        have hrz : ∀ j, j < len → R32 (zs[j]?.getD 0) := fun j hj => by
          have hj' : j < zs.length := by rw [HL.out]; exact hj
          rw [List.getElem?_eq_getElem hj']
          exact hr _ (List.getElem_mem hj')
        clear hown hcur hlen h hr hm hj1 hj2 hj3 hj4
        go_wp2
        generalize hW : w1.alloc (.cells #[.bool false, .int .u32 0, .int .u32 0, .map none] 28) = W
        have hlog : Log W w1.heap.size 0 (fed zs 0) := by subst hW; exact new_log w1
        have hbW : Below w.heap.size w W := by subst hW; exact hb1.alloc hb1.size _
        have hcW : Below w1.heap.size w1 W := by subst hW; exact (Below.refl _ _).alloc (Nat.le_refl _) _
        have hws := hb1.size
        generalize w1.heap.size = B at *
        clear hW
        go_loopw [4] (fun i wr => ∃ k : Nat, k ≤ len ∧ i = .int .i64 k ∧ Log wr B k (fed zs k) ∧ Below B w1 wr ∧ Below w.heap.size w wr) (fun i _ => len - (intOf i).toNat)
        case atStart => exact ⟨0, Nat.zero_le _, rfl, hlog, hcW, hbW⟩
        case round =>
          obtain ⟨k, hk, rfl, hlog, hcW, hbW⟩ := hrel
          by_cases hlt : k < len
          · have hck : wr.cell? ⟨g, k, none⟩ = some (.int .u32 (zs[k]?.getD 0)) := (hcW.cell hgl).trans (hcell k hlt)
            go_wp2
            go_loopw [5, 6] (fun want j wr' => ∃ m : Nat, m ≤ k ∧ j = .int .i64 m ∧ want = .bool false ∧ (∀ i, i < m → zs[i]? ≠ some (zs[k]?.getD 0)) ∧ ∃ n, wr' = wr.drewN n) (fun _ j _ => k - (intOf j).toNat)
            case atStart => exact ⟨0, Nat.zero_le _, rfl, rfl, fun i hi => by omega, 0, rfl⟩
            case round =>
              obtain ⟨m, hmk, rfl, rfl, hno, n, hwr⟩ := hrel
              subst hwr
              by_cases hmlt : m < k
              · have hcm : wr.cell? ⟨g, m, none⟩ = some (.int .u32 (zs[m]?.getD 0)) := (hcW.cell hgl).trans (hcell m (by omega))
                cases heq : (zs[m]?.getD 0 == zs[k]?.getD 0)
                · have HN : Hid (∀ i, i < m + 1 → zs[i]? ≠ some (zs[k]?.getD 0)) := no_more HL.out (by omega) hno (by simpa using heq)
                  clear hno
                  go_wp2
                  go_quiet (fail)
                  go_wp2
                  go_roundw
                  case rel => exact ⟨m + 1, by omega, by go_num, rfl, HN.out, _, rfl⟩
                  case measure => simp [intOf]; omega
                · have HD : Hid (decide (zs[k]?.getD 0 ∈ fed zs k) = true) := was_there HL.out (by omega) hmlt (by simpa using heq)
                  clear hno
                  go_wp2
                  go_quiet (fail)
                  go_wp2_with (go_at_call 13; refine (zzseen_is B k (fed zs k) (zs[k]?.getD 0) true _ (hrz k hlt) (Log.drewN hlog _) (by omega) HD.out).mono ?_; rintro e w2 ⟨rfl, hl2, hb2⟩)
                  go_roundw
                  case rel => exact ⟨k + 1, by omega, by go_num, by rw [fed_succ zs k (by rw [HL.out]; exact hlt)]; exact hl2, (below_drewN hcW _).trans hb2, (below_drewN hbW _).trans (hb2.mono hws)⟩
                  case measure => simp [intOf]; omega
              · have HD : Hid (decide (zs[k]?.getD 0 ∈ fed zs k) = false) := was_not (fun i hi => hno i (by omega))
                clear hno
                go_wp2_with (go_at_call 13; refine (zzseen_is B k (fed zs k) (zs[k]?.getD 0) false _ (hrz k hlt) (Log.drewN hlog _) (by omega) HD.out).mono ?_; rintro e w2 ⟨rfl, hl2, hb2⟩)
                go_roundw
                case rel => exact ⟨k + 1, by omega, by go_num, by rw [fed_succ zs k (by rw [HL.out]; exact hlt)]; exact hl2, (below_drewN hcW _).trans hb2, (below_drewN hbW _).trans (hb2.mono hws)⟩
                case measure => simp [intOf]; omega
          · go_wp2
            go_ret
            exact ⟨rfl, hbW⟩
    · have hB := bytes11 a len cap w hm
      simp only [h1, decide_true] at hB
      go_enter Try.func3, Try.ntmps3
      go_wp2_with (go_at_call 11; refine hB.mono ?_; rintro e w' ⟨rfl, rfl⟩)
      go_ret
      exact ⟨rfl, Below.refl _ _⟩
  · have hB := bytes11 a len cap w hm
    simp only [h1, decide_false] at hB
    go_enter Try.func3, Try.ntmps3
    go_wp2_with (go_at_call 11; refine hB.mono ?_; rintro e w' ⟨rfl, rfl⟩)
    go_ret
    exact ⟨rfl, Below.refl _ _⟩
end Go.Proofs.Qxb6002696a
