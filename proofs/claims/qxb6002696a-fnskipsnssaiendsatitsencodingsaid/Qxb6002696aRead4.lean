/- The reader's skips, more: skipProtocolExtensions (43), skipSNSSAI (38), and the thin calls (22, 23, 24, 29). -/
import Derived.Test.Qxb6002696aRead3
namespace Go.Proofs.Qxb6002696a
open Go.RowKit
set_option linter.unusedVariables false

theorem Bd.item {len : Nat} {s : St} (h : Bd len s) (f : Nat → Bool) : Bd len (rItem f (8 * len) s) := ((h.align.bits f 16).bits f 2).open f

set_option maxHeartbeats 1000000 in
theorem prot_rd (r g len cap : Nat) (s : St) (B : Nat → Nat) (w : World) (h : Rd w r g len cap B s) :
    Calls Try.prog 43 #[.pointer (some ⟨r, 0, none⟩)] w fun e w' => e = .returned (.tuple #[]) ∧ Rd w' r g len cap B (rProt (bitOf B) (8 * len) s) ∧ w.grownBy w' (some r) := by
  have hb1 : (rAligned (bitOf B) (8 * len) 16 s).1 < 65536 := rBits_lt _ _ 16 _
  unfold rProt
  go_enter Try.func43, Try.ntmps43
  go_wp2_with fail
  refine (aligned_rd r g len cap 16 s B w h (by omega)).mono ?_
  rintro e w1 ⟨rfl, h1, g1⟩
  go_wp2
  go_loopw [3] (fun i wr => ∃ (j : Nat) (u : St), j ≤ (rAligned (bitOf B) (8 * len) 16 s).1 + 1 ∧ i = .int .i64 j ∧ Rd wr r g len cap B u ∧ w.grownBy wr (some r) ∧ Hid (rItems (bitOf B) (8 * len) ((rAligned (bitOf B) (8 * len) 16 s).1 + 1 - j) u = rItems (bitOf B) (8 * len) ((rAligned (bitOf B) (8 * len) 16 s).1 + 1) (rAligned (bitOf B) (8 * len) 16 s).2)) (fun i _ => (rAligned (bitOf B) (8 * len) 16 s).1 + 1 - (intOf i).toNat)
  case atStart => exact ⟨0, _, Nat.zero_le _, rfl, h1, g1, rfl⟩
  case round =>
    clear h1 g1
    obtain ⟨j, u, hj, rfl, hR, hg, HO⟩ := hrel
    obtain ⟨c0, c1, c2, z0⟩ := rd_cells hR.cells
    by_cases hjl : j < (rAligned (bitOf B) (8 * len) 16 s).1 + 1
    · cases hu : u.2
      · rw [hu] at c2
        have HO2 : Hid (rItems (bitOf B) (8 * len) ((rAligned (bitOf B) (8 * len) 16 s).1 + 1 - (j + 1)) (rItem (bitOf B) (8 * len) u) = rItems (bitOf B) (8 * len) ((rAligned (bitOf B) (8 * len) 16 s).1 + 1) (rAligned (bitOf B) (8 * len) 16 s).2) := by
          show _ = _
          rw [← HO.out, rItems_step _ _ ((rAligned (bitOf B) (8 * len) 16 s).1 + 1 - j) u (by omega) hu, Nat.sub_sub]
        clear HO hu
        go_wp2_with fail
        refine (aligned_rd r g len cap 16 u B _ hR (by omega)).mono ?_
        rintro e w3 ⟨rfl, h3, g3⟩
        go_wp2_with fail
        refine (bits_rd r g len cap 2 _ B _ h3 (by omega)).mono ?_
        rintro e w4 ⟨rfl, h4, g4⟩
        go_wp2_with fail
        refine (open_rd r g len cap _ B _ h4).mono ?_
        rintro e w5 ⟨v5, rfl, h5, g5⟩
        go_wp2
        go_roundw
        case rel => exact ⟨j + 1, _, by omega, by go_num, h5, hg.trans (g3.trans (g4.trans g5)), HO2⟩
        case measure => simp [intOf]; omega
      · rw [hu] at c2
        have HF : Hid (rItems (bitOf B) (8 * len) ((rAligned (bitOf B) (8 * len) 16 s).1 + 1) (rAligned (bitOf B) (8 * len) 16 s).2 = u) := by
          show _ = _
          rw [← HO.out, rItems_bad _ _ _ u hu]
        clear HO hu
        go_wp2
        go_end0
        exact ⟨rfl, by rw [HF.out]; exact hR, hg⟩
    · have HF : Hid (rItems (bitOf B) (8 * len) ((rAligned (bitOf B) (8 * len) 16 s).1 + 1) (rAligned (bitOf B) (8 * len) 16 s).2 = u) := by
        show _ = _
        rw [← HO.out, show (rAligned (bitOf B) (8 * len) 16 s).1 + 1 - j = 0 by omega]; rfl
      clear HO
      have hdec : decide ((j : Int) < ((rAligned (bitOf B) (8 * len) 16 s).1 : Int) + 1) = false := by simp; omega
      go_wp2
      go_end0
      exact ⟨rfl, by rw [HF.out]; exact hR, hg⟩

theorem rBits1 (f : Nat → Bool) (L : Nat) (s : St) : (rBits f L 1 s).1 = 0 ∨ (rBits f L 1 s).1 = 1 := by
  have : (rBits f L 1 s).1 < 2 := rBits_lt f L 1 s
  omega

end Go.Proofs.Qxb6002696a
