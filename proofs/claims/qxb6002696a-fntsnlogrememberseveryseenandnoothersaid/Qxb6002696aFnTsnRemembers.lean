/- 'FnTsnLogRemembersEverySeenAndNoOther' (4): the walk. -/
import Derived.Test.Qxb6002696aFnTsnSeen
namespace Go.Proofs.Qxb6002696a
open Go.RowKit Go.Maps
set_option linter.unusedVariables false

theorem bytes14 (a : Option Addr) (len cap : Nat) (p : Int) (w : World) (hm : len ≤ 9223372036854775807) :
    Calls Try.prog 14 #[.slice a len cap, .int .u32 p] w fun e w' => e = .returned (.bool (decide (len ≤ 1048576))) ∧ w = w' := by
  by_cases h : len ≤ 1048576
  · go_enter Try.func14, Try.ntmps14
    go_wp2
    go_ret
    exact ⟨by simp [h], rfl⟩
  · go_enter Try.func14, Try.ntmps14
    go_wp2
    go_ret
    exact ⟨by simp [h], rfl⟩

/-- A log that has seen just the numbers of zs, after at most N calls. -/
def Same (w : World) (b N : Nat) (zs : List Int) : Prop := ∃ S, Log w b N S ∧ ∀ x, x ∈ S ↔ x ∈ zs

theorem same_again {w' : World} {b N : Nat} {zs S : List Int} {t : Int} (hS : ∀ x, x ∈ S ↔ x ∈ zs) (ht : t ∈ zs) (h : Log w' b (N + 1) (t :: S)) : Same w' b (N + 1) zs := by
  refine ⟨_, h, fun x => ?_⟩
  rw [List.mem_cons]
  constructor
  · rintro (rfl | h)
    · exact ht
    · exact (hS x).1 h
  · exact fun h => .inr ((hS x).2 h)

theorem mem_getD {zs : List Int} {k : Nat} (h : k < zs.length) : zs[k]?.getD 0 ∈ zs := by
  rw [List.getElem?_eq_getElem h]
  exact List.getElem_mem h

theorem fed_all (zs : List Int) (len : Nat) (h : zs.length = len) (x : Int) : x ∈ fed zs len ↔ x ∈ zs := by
  subst h; simp [fed]

set_option maxHeartbeats 2000000 in
theorem fn4_walk (a : Option Addr) (len cap : Nat) (zs : List Int) (p : Int) (w : World) (h : Came w a len (zs.map (Value.int .u32))) (hr : ∀ z ∈ zs, R32 z) (hp : R32 p) (hm : len ≤ 9223372036854775807) :
    Calls Try.prog 4 #[.slice a len cap, .int .u32 p] w fun e w' => e = .returned (.bool true) ∧ Below w.heap.size w w' := by
  by_cases h1 : len ≤ 1048576
  · by_cases h2 : len ≤ 65536
    · have hB := bytes14 a len cap p w hm
      simp only [h1, decide_true] at hB
      have h2d : decide ((65536 : Int) < (len : Int)) = false := by simp; omega
      go_enter Try.func4, Try.ntmps4
      go_wp2_with fail
      refine hB.mono ?_
      rintro e w' ⟨rfl, rfl⟩
      clear hB
      go_wp2_with fail
      refine (clone12 a len cap _ _ h h1 (by intro u hu; obtain ⟨z, _, rfl⟩ := List.mem_map.1 hu; exact ⟨z, rfl⟩)).mono ?_
      rintro e w1 ⟨v, rfl, hown, hb1⟩
      have hlen := h.1
      rcases hown.2 with ⟨hv, h0⟩ | ⟨g, cap', cur, hv, hg, hcur, hj1, hj2, hj3, hj4⟩
      · subst hv h0
        clear hown
        go_wp2
        refine wp_loop_rounds 1 ?_
        rw [rounds_succ]
        go_wp2
        refine wp_loop_rounds 1 ?_
        rw [rounds_succ]
        go_wp2
        refine wp_loop_rounds 1 ?_
        rw [rounds_succ]
        go_wp2_with fail
        refine (zzseen_is w1.heap.size 0 [] p false _ hp (new_log w1) (by omega) (by simp)).mono ?_
        rintro e w2 ⟨rfl, hl2, hb2⟩
        go_wp2_with fail
        refine (zzseen_is w1.heap.size 1 [p] p true _ hp hl2 (by omega) (by simp)).mono ?_
        rintro e w3 ⟨rfl, hl3, hb3⟩
        go_wp2
        go_ret
        exact ⟨rfl, ((hb1.alloc hb1.size _).trans (hb2.mono hb1.size)).trans (hb3.mono hb1.size)⟩
      · subst hv
        have hcell : ∀ j, j < len → w1.cell? ⟨g, j, none⟩ = some (.int .u32 (zs[j]?.getD 0)) := fun j hj => by
          have hj' : j < zs.length := by simpa using (by omega : j < (zs.map (Value.int .u32)).length)
          rw [hown.cellAt j (by omega)]
          simp [List.getElem?_eq_getElem hj']
        have hgl : g < w1.heap.size := (Array.getElem?_eq_some_iff.1 hcur).1
        have HL : Hid (zs.length = len) := (by simpa using hlen : zs.length = len)
        have hrz : ∀ j, j < len → R32 (zs[j]?.getD 0) := fun j hj => hr _ (mem_getD (by rw [HL.out]; exact hj))
        clear hown hcur hlen h hr hm hj1 hj2 hj3 hj4
        go_wp2
        generalize hW : w1.alloc (.cells #[.bool false, .int .u32 0, .int .u32 0, .map none] 28) = W
        have hlog : Log W w1.heap.size 0 (fed zs 0) := by subst hW; exact new_log w1
        have hbW : Below w.heap.size w W := by subst hW; exact hb1.alloc hb1.size _
        have hcW : Below w1.heap.size w1 W := by subst hW; exact (Below.refl _ _).alloc (Nat.le_refl _) _
        have hws := hb1.size
        generalize w1.heap.size = B at *
        clear hW
        go_loopw [6] (fun i wr => ∃ k : Nat, k ≤ len ∧ i = .int .i64 k ∧ Log wr B k (fed zs k) ∧ Below B w1 wr ∧ Below w.heap.size w wr) (fun i _ => len - (intOf i).toNat)
        case atStart => exact ⟨0, Nat.zero_le _, rfl, hlog, hcW, hbW⟩
        case round =>
          obtain ⟨k, hk, rfl, hlog, hcW, hbW⟩ := hrel
          by_cases hlt : k < len
          · have hck : wr.cell? ⟨g, k, none⟩ = some (.int .u32 (zs[k]?.getD 0)) := (hcW.cell hgl).trans (hcell k hlt)
            go_wp2_with (go_at_call 13; refine (zzseen_any B k (fed zs k) (zs[k]?.getD 0) (hrz k hlt) _ hlog (by omega)).mono ?_; rintro e w2 ⟨rfl, hl2, hb2⟩)
            go_roundw
            case rel => exact ⟨k + 1, by omega, by go_num, by rw [fed_succ zs k (by rw [HL.out]; exact hlt)]; exact hl2, hcW.trans hb2, hbW.trans (hb2.mono hws)⟩
            case measure => simp [intOf]; omega
          · obtain rfl : k = len := by omega
            have hsame : Same wr B (k + 0) zs := ⟨_, hlog, fed_all zs k HL.out⟩
            clear hlog
            go_wp2
            go_loopw [7] (fun i wr => ∃ m : Nat, m ≤ k ∧ i = .int .i64 m ∧ Same wr B (k + m) zs ∧ Below B w1 wr ∧ Below w.heap.size w wr) (fun i _ => k - (intOf i).toNat)
            case atStart => exact ⟨0, Nat.zero_le _, rfl, hsame, hcW, hbW⟩
            case round =>
              clear hsame hcW hbW
              obtain ⟨m, hm, rfl, hsame, hcW, hbW⟩ := hrel
              by_cases hmlt : m < k
              · have hck : wr.cell? ⟨g, m, none⟩ = some (.int .u32 (zs[m]?.getD 0)) := (hcW.cell hgl).trans (hcell m hmlt)
                have HM : Hid (zs[m]?.getD 0 ∈ zs) := mem_getD (by rw [HL.out]; exact hmlt)
                obtain ⟨S, hlog, hS⟩ := hsame
                have HS : Hid (∀ x, x ∈ S ↔ x ∈ zs) := hS
                clear hS
                go_wp2_with (go_at_call 13; refine (zzseen_is B (k + m) S (zs[m]?.getD 0) true _ (hrz m hmlt) hlog (by omega) (decide_eq_true ((HS.out _).2 HM.out))).mono ?_; rintro e w2 ⟨rfl, hl2, hb2⟩)
                go_roundw
                case rel => exact ⟨m + 1, by omega, by go_num, same_again HS.out HM.out hl2, hcW.trans hb2, hbW.trans (hb2.mono hws)⟩
                case measure => simp [intOf]; omega
              · obtain rfl : m = k := by omega
                go_wp2
                go_loop [8] (fun i => ∃ j : Nat, j ≤ m ∧ i = .int .i64 j ∧ ∀ i, i < j → zs[i]? ≠ some p) (fun i => m - (intOf i).toNat)
                case atStart => exact ⟨0, Nat.zero_le _, rfl, fun i hi => by omega⟩
                case round =>
                  obtain ⟨j, hj, rfl, hno⟩ := hrel
                  by_cases hjlt : j < m
                  · have hck : wr.cell? ⟨g, j, none⟩ = some (.int .u32 (zs[j]?.getD 0)) := (hcW.cell hgl).trans (hcell j hjlt)
                    cases heq : (zs[j]?.getD 0 == p)
                    · have HN : Hid (∀ i, i < j + 1 → zs[i]? ≠ some p) := no_more HL.out hjlt hno (by simpa using heq)
                      clear hno
                      go_wp2
                      go_round
                      case rel => exact ⟨j + 1, by omega, by go_num, HN.out⟩
                      case measure => simp [intOf]; omega
                    · clear hno
                      go_wp2
                      go_ret
                      exact ⟨rfl, hbW⟩
                  · obtain rfl : j = m := by omega
                    obtain ⟨S, hlog, hS⟩ := hsame
                    have HP : Hid (decide (p ∈ S) = false) := by
                      show decide (p ∈ S) = false
                      rw [decide_eq_false_iff_not, hS, ← fed_all zs j HL.out, ← decide_eq_false_iff_not]
                      exact was_not hno
                    clear hS hno
                    go_wp2_with fail
                    refine (zzseen_is B (j + j) S p false _ hp hlog (by omega) HP.out).mono ?_
                    rintro e w2 ⟨rfl, hl2, hb2⟩
                    go_wp2_with fail
                    refine (zzseen_is B (j + j + 1) (p :: S) p true _ hp hl2 (by omega) (by simp)).mono ?_
                    rintro e w3 ⟨rfl, hl3, hb3⟩
                    go_wp2
                    go_ret
                    exact ⟨rfl, (hbW.trans (hb2.mono hws)).trans (hb3.mono hws)⟩
    · have hB := bytes14 a len cap p w hm
      simp only [h1, decide_true] at hB
      go_enter Try.func4, Try.ntmps4
      go_wp2_with (go_at_call 14; refine hB.mono ?_; rintro e w' ⟨rfl, rfl⟩)
      go_ret
      exact ⟨rfl, Below.refl _ _⟩
  · have hB := bytes14 a len cap p w hm
    simp only [h1, decide_false] at hB
    go_enter Try.func4, Try.ntmps4
    go_wp2_with (go_at_call 14; refine hB.mono ?_; rintro e w' ⟨rfl, rfl⟩)
    go_ret
    exact ⟨rfl, Below.refl _ _⟩
end Go.Proofs.Qxb6002696a
