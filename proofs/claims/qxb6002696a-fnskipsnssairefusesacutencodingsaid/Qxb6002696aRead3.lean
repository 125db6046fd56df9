/- The reader's skips: skipExtensions (36), skipProtocolExtensions (43), skipSNSSAI (38), and the thin calls of them. -/
import Derived.Test.Qxb6002696aRead2
namespace Go.Proofs.Qxb6002696a
open Go.RowKit
set_option linter.unusedVariables false

/-! ### plain: no position runs away -/
theorem Bd.open {len : Nat} {s : St} (h : Bd len s) (f : Nat → Bool) : Bd len (rOpen f (8 * len) s) := (h.length f).octets _
theorem rOpens_bad (f : Nat → Bool) (L : Nat) : ∀ (n : Nat) (s : St), s.2 = true → rOpens f L n s = s
  | 0, _, _ => rfl
  | n + 1, s, h => by rw [rOpens, if_pos h]
theorem rItems_bad (f : Nat → Bool) (L : Nat) : ∀ (n : Nat) (s : St), s.2 = true → rItems f L n s = s
  | 0, _, _ => rfl
  | n + 1, s, h => by rw [rItems, if_pos h]
theorem rCount_step (f : Nat → Bool) (L n c : Nat) (s : St) (h : 0 < n) : rCount f L n c s = rCount f L (n - 1) (c + (rBits f L 1 s).1) (rBits f L 1 s).2 := by
  obtain ⟨m, rfl⟩ : ∃ m, n = m + 1 := ⟨n - 1, by omega⟩
  rfl
theorem rOpens_step (f : Nat → Bool) (L n : Nat) (s : St) (h : 0 < n) (hb : s.2 = false) : rOpens f L n s = rOpens f L (n - 1) (rOpen f L s) := by
  obtain ⟨m, rfl⟩ : ∃ m, n = m + 1 := ⟨n - 1, by omega⟩
  rw [rOpens, if_neg (by simp [hb])]
  rfl
theorem rItems_step (f : Nat → Bool) (L n : Nat) (s : St) (h : 0 < n) (hb : s.2 = false) : rItems f L n s = rItems f L (n - 1) (rItem f L s) := by
  obtain ⟨m, rfl⟩ : ∃ m, n = m + 1 := ⟨n - 1, by omega⟩
  rw [rItems, if_neg (by simp [hb])]
  rfl

set_option maxHeartbeats 2000000 in
theorem skip_rd (r g len cap : Nat) (s : St) (B : Nat → Nat) (w : World) (h : Rd w r g len cap B s) :
    Calls Try.prog 36 #[.pointer (some ⟨r, 0, none⟩)] w fun e w' => e = .returned (.tuple #[]) ∧ Rd w' r g len cap B (rSkip (bitOf B) (8 * len) s) ∧ w.grownBy w' (some r) := by
  have hb1 : (rBits (bitOf B) (8 * len) 1 s).1 < 2 := rBits_lt _ _ 1 _
  by_cases hz : (rBits (bitOf B) (8 * len) 1 s).1 = 0
  · obtain ⟨n, hn⟩ : ∃ n, n = (rBits (bitOf B) (8 * len) 6 (rBits (bitOf B) (8 * len) 1 s).2).1 + 1 := ⟨_, rfl⟩
    obtain ⟨s1, hs1⟩ : ∃ s1, s1 = (rBits (bitOf B) (8 * len) 6 (rBits (bitOf B) (8 * len) 1 s).2).2 := ⟨_, rfl⟩
    have hnb : n ≤ 16384 := by rw [hn]; have := rBits_lt (bitOf B) (8 * len) 6 (rBits (bitOf B) (8 * len) 1 s).2; omega
    have hres : rSkip (bitOf B) (8 * len) s = rOpens (bitOf B) (8 * len) (rCount (bitOf B) (8 * len) n 0 s1).1 (rCount (bitOf B) (8 * len) n 0 s1).2 := by
      unfold rSkip rHead
      simp only [hz, if_true, hn, hs1]
    rw [hres]
    have HN : Hid ((rBits (bitOf B) (8 * len) 6 (rBits (bitOf B) (8 * len) 1 s).2).1 + 1 = n) := hn.symm
    have HS : Hid ((rBits (bitOf B) (8 * len) 6 (rBits (bitOf B) (8 * len) 1 s).2).2 = s1) := hs1.symm
    have hti : (((rBits (bitOf B) (8 * len) 1 s).1 : Int) == 0) = true := by simp [hz]
    clear hn hs1 hres
    go_enter Try.func36, Try.ntmps36
    go_wp2_with fail
    refine (bits_rd r g len cap 1 s B w h (by omega)).mono ?_
    rintro e w1 ⟨rfl, h1, g1⟩
    go_wp2_with fail
    refine (bits_rd r g len cap 6 _ B w1 h1 (by omega)).mono ?_
    rintro e w2 ⟨rfl, h2, g2⟩
    rw [HS.out] at h2
    have hslot : ((rBits (bitOf B) (8 * len) 6 (rBits (bitOf B) (8 * len) 1 s).2).1 : Int) + 1 = (n : Int) := by rw [← HN.out]; simp
    have g12 := g1.trans g2
    clear g1 g2 h1 h HS HN hti hz hb1
    go_wp2
    generalize ((rBits (bitOf B) (8 * len) 6 (rBits (bitOf B) (8 * len) 1 s).2).1 : Int) + 1 = N at *
    subst hslot
    go_loopw [3, 15] (fun c i wr => ∃ (k d : Nat) (t : St), k ≤ n ∧ d ≤ k ∧ i = .int .i64 k ∧ c = .int .i64 d ∧ Rd wr r g len cap B t ∧ w.grownBy wr (some r) ∧ Hid (rCount (bitOf B) (8 * len) (n - k) d t = rCount (bitOf B) (8 * len) n 0 s1)) (fun _ i _ => n - (intOf i).toNat)
    case atStart => exact ⟨0, 0, s1, Nat.zero_le _, Nat.le_refl _, rfl, rfl, h2, g12, rfl⟩
    case round =>
      obtain ⟨k, d, t, hk, hd, rfl, rfl, hR, hg, HC⟩ := hrel
      by_cases hlt : k < n
      · have hx : (rBits (bitOf B) (8 * len) 1 t).1 < 2 := rBits_lt _ _ 1 _
        have HC2 : Hid (rCount (bitOf B) (8 * len) (n - (k + 1)) (d + (rBits (bitOf B) (8 * len) 1 t).1) (rBits (bitOf B) (8 * len) 1 t).2 = rCount (bitOf B) (8 * len) n 0 s1) := by
          show _ = _
          rw [← HC.out, rCount_step _ _ (n - k) d t (by omega), Nat.sub_sub]
        clear HC
        go_wp2_with (go_at_call 39; refine (bits_rd r g len cap 1 t B wr hR (by omega)).mono ?_; rintro e w3 ⟨rfl, h3, g3⟩)
        go_roundw
        case rel => exact ⟨k + 1, _, _, by omega, by omega, by go_num, by go_num, h3, hg.trans g3, HC2⟩
        case measure => simp [intOf]; omega
      · obtain rfl : k = n := by omega
        rw [Nat.sub_self] at HC
        have HC2 : Hid (rCount (bitOf B) (8 * len) k 0 s1 = (d, t)) := HC.out.symm
        clear HC
        go_wp2
        go_loopw [4] (fun i wr' => ∃ (j : Nat) (u : St), j ≤ d ∧ i = .int .i64 j ∧ Rd wr' r g len cap B u ∧ w.grownBy wr' (some r) ∧ Hid (rOpens (bitOf B) (8 * len) (d - j) u = rOpens (bitOf B) (8 * len) d t)) (fun i _ => d - (intOf i).toNat)
        case atStart => exact ⟨0, t, Nat.zero_le _, rfl, hR, hg, rfl⟩
        case round =>
          clear hR hg
          obtain ⟨j, u, hj, rfl, hR, hg, HO⟩ := hrel
          obtain ⟨c0, c1, c2, z0⟩ := rd_cells hR.cells
          by_cases hjl : j < d
          · cases hu : u.2
            · rw [hu] at c2
              have HO2 : Hid (rOpens (bitOf B) (8 * len) (d - (j + 1)) (rOpen (bitOf B) (8 * len) u) = rOpens (bitOf B) (8 * len) d t) := by
                show _ = _
                rw [← HO.out, rOpens_step _ _ (d - j) u (by omega) hu, Nat.sub_sub]
              clear HO hu
              go_wp2_with (go_at_call 41; refine (open_rd r g len cap u B _ hR).mono ?_; rintro e w3 ⟨v3, rfl, h3, g3⟩)
              go_roundw
              case rel => exact ⟨j + 1, _, by omega, by go_num, h3, hg.trans g3, HO2⟩
              case measure => simp [intOf]; omega
            · rw [hu] at c2
              have HF : Hid (rOpens (bitOf B) (8 * len) d t = u) := by
                show _ = _
                rw [← HO.out, rOpens_bad _ _ _ u hu]
              clear HO hu
              go_wp2
              go_end0
              exact ⟨rfl, by rw [HC2.out]; show Rd _ _ _ _ _ _ (rOpens (bitOf B) (8 * len) d t); rw [HF.out]; exact hR, hg⟩
          · obtain rfl : j = d := by omega
            have HF : Hid (rOpens (bitOf B) (8 * len) j t = u) := by
              show _ = _
              rw [← HO.out, Nat.sub_self]; rfl
            clear HO
            have hdec : decide ((j : Int) < (j : Int)) = false := by simp
            go_wp2
            go_end0
            exact ⟨rfl, by rw [HC2.out]; show Rd _ _ _ _ _ _ (rOpens (bitOf B) (8 * len) j t); rw [HF.out]; exact hR, hg⟩
  · obtain ⟨n, hn⟩ : ∃ n, n = (rLength (bitOf B) (8 * len) (rBits (bitOf B) (8 * len) 1 s).2).1 := ⟨_, rfl⟩
    obtain ⟨s1, hs1⟩ : ∃ s1, s1 = (rLength (bitOf B) (8 * len) (rBits (bitOf B) (8 * len) 1 s).2).2 := ⟨_, rfl⟩
    have hnb : n ≤ 16384 := by rw [hn]; have := rLength_lt (bitOf B) (8 * len) (rBits (bitOf B) (8 * len) 1 s).2; omega
    have hres : rSkip (bitOf B) (8 * len) s = rOpens (bitOf B) (8 * len) (rCount (bitOf B) (8 * len) n 0 s1).1 (rCount (bitOf B) (8 * len) n 0 s1).2 := by
      unfold rSkip rHead
      simp only [hz, if_false, hn, hs1]
    rw [hres]
    have HN : Hid ((rLength (bitOf B) (8 * len) (rBits (bitOf B) (8 * len) 1 s).2).1 = n) := hn.symm
    have HS : Hid ((rLength (bitOf B) (8 * len) (rBits (bitOf B) (8 * len) 1 s).2).2 = s1) := hs1.symm
    have hti : (((rBits (bitOf B) (8 * len) 1 s).1 : Int) == 0) = false := by simp [hz]
    clear hn hs1 hres
    go_enter Try.func36, Try.ntmps36
    go_wp2_with fail
    refine (bits_rd r g len cap 1 s B w h (by omega)).mono ?_
    rintro e w1 ⟨rfl, h1, g1⟩
    go_wp2_with fail
    refine (length_rd r g len cap _ B w1 h1).mono ?_
    rintro e w2 ⟨rfl, h2, g2⟩
    rw [HS.out] at h2
    have hslot : ((rLength (bitOf B) (8 * len) (rBits (bitOf B) (8 * len) 1 s).2).1 : Int) = (n : Int) := by rw [← HN.out]
    have g12 := g1.trans g2
    clear g1 g2 h1 h HS HN hti hz hb1
    go_wp2
    generalize ((rLength (bitOf B) (8 * len) (rBits (bitOf B) (8 * len) 1 s).2).1 : Int) = N at *
    subst hslot
    go_loopw [3, 15] (fun c i wr => ∃ (k d : Nat) (t : St), k ≤ n ∧ d ≤ k ∧ i = .int .i64 k ∧ c = .int .i64 d ∧ Rd wr r g len cap B t ∧ w.grownBy wr (some r) ∧ Hid (rCount (bitOf B) (8 * len) (n - k) d t = rCount (bitOf B) (8 * len) n 0 s1)) (fun _ i _ => n - (intOf i).toNat)
    case atStart => exact ⟨0, 0, s1, Nat.zero_le _, Nat.le_refl _, rfl, rfl, h2, g12, rfl⟩
    case round =>
      obtain ⟨k, d, t, hk, hd, rfl, rfl, hR, hg, HC⟩ := hrel
      by_cases hlt : k < n
      · have hx : (rBits (bitOf B) (8 * len) 1 t).1 < 2 := rBits_lt _ _ 1 _
        have HC2 : Hid (rCount (bitOf B) (8 * len) (n - (k + 1)) (d + (rBits (bitOf B) (8 * len) 1 t).1) (rBits (bitOf B) (8 * len) 1 t).2 = rCount (bitOf B) (8 * len) n 0 s1) := by
          show _ = _
          rw [← HC.out, rCount_step _ _ (n - k) d t (by omega), Nat.sub_sub]
        clear HC
        go_wp2_with (go_at_call 39; refine (bits_rd r g len cap 1 t B wr hR (by omega)).mono ?_; rintro e w3 ⟨rfl, h3, g3⟩)
        go_roundw
        case rel => exact ⟨k + 1, _, _, by omega, by omega, by go_num, by go_num, h3, hg.trans g3, HC2⟩
        case measure => simp [intOf]; omega
      · obtain rfl : k = n := by omega
        rw [Nat.sub_self] at HC
        have HC2 : Hid (rCount (bitOf B) (8 * len) k 0 s1 = (d, t)) := HC.out.symm
        clear HC
        go_wp2
        go_loopw [4] (fun i wr' => ∃ (j : Nat) (u : St), j ≤ d ∧ i = .int .i64 j ∧ Rd wr' r g len cap B u ∧ w.grownBy wr' (some r) ∧ Hid (rOpens (bitOf B) (8 * len) (d - j) u = rOpens (bitOf B) (8 * len) d t)) (fun i _ => d - (intOf i).toNat)
        case atStart => exact ⟨0, t, Nat.zero_le _, rfl, hR, hg, rfl⟩
        case round =>
          clear hR hg
          obtain ⟨j, u, hj, rfl, hR, hg, HO⟩ := hrel
          obtain ⟨c0, c1, c2, z0⟩ := rd_cells hR.cells
          by_cases hjl : j < d
          · cases hu : u.2
            · rw [hu] at c2
              have HO2 : Hid (rOpens (bitOf B) (8 * len) (d - (j + 1)) (rOpen (bitOf B) (8 * len) u) = rOpens (bitOf B) (8 * len) d t) := by
                show _ = _
                rw [← HO.out, rOpens_step _ _ (d - j) u (by omega) hu, Nat.sub_sub]
              clear HO hu
              go_wp2_with (go_at_call 41; refine (open_rd r g len cap u B _ hR).mono ?_; rintro e w3 ⟨v3, rfl, h3, g3⟩)
              go_roundw
              case rel => exact ⟨j + 1, _, by omega, by go_num, h3, hg.trans g3, HO2⟩
              case measure => simp [intOf]; omega
            · rw [hu] at c2
              have HF : Hid (rOpens (bitOf B) (8 * len) d t = u) := by
                show _ = _
                rw [← HO.out, rOpens_bad _ _ _ u hu]
              clear HO hu
              go_wp2
              go_end0
              exact ⟨rfl, by rw [HC2.out]; show Rd _ _ _ _ _ _ (rOpens (bitOf B) (8 * len) d t); rw [HF.out]; exact hR, hg⟩
          · obtain rfl : j = d := by omega
            have HF : Hid (rOpens (bitOf B) (8 * len) j t = u) := by
              show _ = _
              rw [← HO.out, Nat.sub_self]; rfl
            clear HO
            have hdec : decide ((j : Int) < (j : Int)) = false := by simp
            go_wp2
            go_end0
            exact ⟨rfl, by rw [HC2.out]; show Rd _ _ _ _ _ _ (rOpens (bitOf B) (8 * len) j t); rw [HF.out]; exact hR, hg⟩

end Go.Proofs.Qxb6002696a
