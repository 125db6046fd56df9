/- skipSNSSAI (38), and the thin calls (22, 23, 24, 29). -/
import Derived.Test.Qxb6002696aRead4
namespace Go.Proofs.Qxb6002696a
open Go.RowKit
set_option linter.unusedVariables false

set_option maxHeartbeats 400000 in
theorem sn_000 (r g len cap : Nat) (s : St) (B : Nat → Nat) (w : World) (h : Rd w r g len cap B s)
    (he : (((rBits (bitOf B) (8 * len) 1 s).1 : Int) == 1) = false) (hd : (((rBits (bitOf B) (8 * len) 1 (rBits (bitOf B) (8 * len) 1 s).2).1 : Int) == 1) = false) (hx : (((rBits (bitOf B) (8 * len) 1 (rBits (bitOf B) (8 * len) 1 (rBits (bitOf B) (8 * len) 1 s).2).2).1 : Int) == 1) = false) :
    Calls Try.prog 38 #[.pointer (some ⟨r, 0, none⟩)] w fun e w' => e = .returned (.tuple #[]) ∧ Rd w' r g len cap B (rBits (bitOf B) (8 * len) 8 (rBits (bitOf B) (8 * len) 1 (rBits (bitOf B) (8 * len) 1 (rBits (bitOf B) (8 * len) 1 s).2).2).2).2 ∧ w.grownBy w' (some r) := by
  go_enter Try.func38, Try.ntmps38
  go_wp2_with fail
  refine (bits_rd r g len cap 1 s B w h (by omega)).mono ?_
  rintro e w1 ⟨rfl, h1, g1⟩
  go_wp2_with fail
  refine (bits_rd r g len cap 1 _ B _ h1 (by omega)).mono ?_
  rintro e w2 ⟨rfl, h2, g2⟩
  go_wp2_with fail
  refine (bits_rd r g len cap 1 _ B _ h2 (by omega)).mono ?_
  rintro e w3 ⟨rfl, h3, g3⟩
  go_wp2_with fail
  refine (bits_rd r g len cap 8 _ B _ h3 (by omega)).mono ?_
  rintro e w4 ⟨rfl, h4, g4⟩
  go_wp2
  go_end0
  exact ⟨rfl, h4, g1.trans (g2.trans (g3.trans g4))⟩

set_option maxHeartbeats 400000 in
theorem sn_001 (r g len cap : Nat) (s : St) (B : Nat → Nat) (w : World) (h : Rd w r g len cap B s)
    (he : (((rBits (bitOf B) (8 * len) 1 s).1 : Int) == 1) = false) (hd : (((rBits (bitOf B) (8 * len) 1 (rBits (bitOf B) (8 * len) 1 s).2).1 : Int) == 1) = false) (hx : (((rBits (bitOf B) (8 * len) 1 (rBits (bitOf B) (8 * len) 1 (rBits (bitOf B) (8 * len) 1 s).2).2).1 : Int) == 1) = true) :
    Calls Try.prog 38 #[.pointer (some ⟨r, 0, none⟩)] w fun e w' => e = .returned (.tuple #[]) ∧ Rd w' r g len cap B (rProt (bitOf B) (8 * len) (rBits (bitOf B) (8 * len) 8 (rBits (bitOf B) (8 * len) 1 (rBits (bitOf B) (8 * len) 1 (rBits (bitOf B) (8 * len) 1 s).2).2).2).2) ∧ w.grownBy w' (some r) := by
  go_enter Try.func38, Try.ntmps38
  go_wp2_with fail
  refine (bits_rd r g len cap 1 s B w h (by omega)).mono ?_
  rintro e w1 ⟨rfl, h1, g1⟩
  go_wp2_with fail
  refine (bits_rd r g len cap 1 _ B _ h1 (by omega)).mono ?_
  rintro e w2 ⟨rfl, h2, g2⟩
  go_wp2_with fail
  refine (bits_rd r g len cap 1 _ B _ h2 (by omega)).mono ?_
  rintro e w3 ⟨rfl, h3, g3⟩
  go_wp2_with fail
  refine (bits_rd r g len cap 8 _ B _ h3 (by omega)).mono ?_
  rintro e w4 ⟨rfl, h4, g4⟩
  go_wp2_with fail
  refine (prot_rd r g len cap _ B _ h4).mono ?_
  rintro e w5 ⟨rfl, h5, g5⟩
  go_wp2
  go_end0
  exact ⟨rfl, h5, g1.trans (g2.trans (g3.trans (g4.trans g5)))⟩

set_option maxHeartbeats 400000 in
theorem sn_010 (r g len cap : Nat) (s : St) (B : Nat → Nat) (w : World) (h : Rd w r g len cap B s)
    (he : (((rBits (bitOf B) (8 * len) 1 s).1 : Int) == 1) = false) (hd : (((rBits (bitOf B) (8 * len) 1 (rBits (bitOf B) (8 * len) 1 s).2).1 : Int) == 1) = true) (hx : (((rBits (bitOf B) (8 * len) 1 (rBits (bitOf B) (8 * len) 1 (rBits (bitOf B) (8 * len) 1 s).2).2).1 : Int) == 1) = false) :
    Calls Try.prog 38 #[.pointer (some ⟨r, 0, none⟩)] w fun e w' => e = .returned (.tuple #[]) ∧ Rd w' r g len cap B (rOctets (8 * len) 3 (rBits (bitOf B) (8 * len) 8 (rBits (bitOf B) (8 * len) 1 (rBits (bitOf B) (8 * len) 1 (rBits (bitOf B) (8 * len) 1 s).2).2).2).2) ∧ w.grownBy w' (some r) := by
  go_enter Try.func38, Try.ntmps38
  go_wp2_with fail
  refine (bits_rd r g len cap 1 s B w h (by omega)).mono ?_
  rintro e w1 ⟨rfl, h1, g1⟩
  go_wp2_with fail
  refine (bits_rd r g len cap 1 _ B _ h1 (by omega)).mono ?_
  rintro e w2 ⟨rfl, h2, g2⟩
  go_wp2_with fail
  refine (bits_rd r g len cap 1 _ B _ h2 (by omega)).mono ?_
  rintro e w3 ⟨rfl, h3, g3⟩
  go_wp2_with fail
  refine (bits_rd r g len cap 8 _ B _ h3 (by omega)).mono ?_
  rintro e w4 ⟨rfl, h4, g4⟩
  go_wp2_with fail
  refine (octets_rd r g len cap 3 _ B _ h4 (by omega)).mono ?_
  rintro e w5 ⟨v5, rfl, h5, g5⟩
  go_wp2
  go_end0
  exact ⟨rfl, h5, g1.trans (g2.trans (g3.trans (g4.trans g5)))⟩

set_option maxHeartbeats 400000 in
theorem sn_011 (r g len cap : Nat) (s : St) (B : Nat → Nat) (w : World) (h : Rd w r g len cap B s)
    (he : (((rBits (bitOf B) (8 * len) 1 s).1 : Int) == 1) = false) (hd : (((rBits (bitOf B) (8 * len) 1 (rBits (bitOf B) (8 * len) 1 s).2).1 : Int) == 1) = true) (hx : (((rBits (bitOf B) (8 * len) 1 (rBits (bitOf B) (8 * len) 1 (rBits (bitOf B) (8 * len) 1 s).2).2).1 : Int) == 1) = true) :
    Calls Try.prog 38 #[.pointer (some ⟨r, 0, none⟩)] w fun e w' => e = .returned (.tuple #[]) ∧ Rd w' r g len cap B (rProt (bitOf B) (8 * len) (rOctets (8 * len) 3 (rBits (bitOf B) (8 * len) 8 (rBits (bitOf B) (8 * len) 1 (rBits (bitOf B) (8 * len) 1 (rBits (bitOf B) (8 * len) 1 s).2).2).2).2)) ∧ w.grownBy w' (some r) := by
  go_enter Try.func38, Try.ntmps38
  go_wp2_with fail
  refine (bits_rd r g len cap 1 s B w h (by omega)).mono ?_
  rintro e w1 ⟨rfl, h1, g1⟩
  go_wp2_with fail
  refine (bits_rd r g len cap 1 _ B _ h1 (by omega)).mono ?_
  rintro e w2 ⟨rfl, h2, g2⟩
  go_wp2_with fail
  refine (bits_rd r g len cap 1 _ B _ h2 (by omega)).mono ?_
  rintro e w3 ⟨rfl, h3, g3⟩
  go_wp2_with fail
  refine (bits_rd r g len cap 8 _ B _ h3 (by omega)).mono ?_
  rintro e w4 ⟨rfl, h4, g4⟩
  go_wp2_with fail
  refine (octets_rd r g len cap 3 _ B _ h4 (by omega)).mono ?_
  rintro e w5 ⟨v5, rfl, h5, g5⟩
  go_wp2_with fail
  refine (prot_rd r g len cap _ B _ h5).mono ?_
  rintro e w6 ⟨rfl, h6, g6⟩
  go_wp2
  go_end0
  exact ⟨rfl, h6, g1.trans (g2.trans (g3.trans (g4.trans (g5.trans g6))))⟩

set_option maxHeartbeats 400000 in
theorem sn_100 (r g len cap : Nat) (s : St) (B : Nat → Nat) (w : World) (h : Rd w r g len cap B s)
    (he : (((rBits (bitOf B) (8 * len) 1 s).1 : Int) == 1) = true) (hd : (((rBits (bitOf B) (8 * len) 1 (rBits (bitOf B) (8 * len) 1 s).2).1 : Int) == 1) = false) (hx : (((rBits (bitOf B) (8 * len) 1 (rBits (bitOf B) (8 * len) 1 (rBits (bitOf B) (8 * len) 1 s).2).2).1 : Int) == 1) = false) :
    Calls Try.prog 38 #[.pointer (some ⟨r, 0, none⟩)] w fun e w' => e = .returned (.tuple #[]) ∧ Rd w' r g len cap B (rSkip (bitOf B) (8 * len) (rBits (bitOf B) (8 * len) 8 (rBits (bitOf B) (8 * len) 1 (rBits (bitOf B) (8 * len) 1 (rBits (bitOf B) (8 * len) 1 s).2).2).2).2) ∧ w.grownBy w' (some r) := by
  go_enter Try.func38, Try.ntmps38
  go_wp2_with fail
  refine (bits_rd r g len cap 1 s B w h (by omega)).mono ?_
  rintro e w1 ⟨rfl, h1, g1⟩
  go_wp2_with fail
  refine (bits_rd r g len cap 1 _ B _ h1 (by omega)).mono ?_
  rintro e w2 ⟨rfl, h2, g2⟩
  go_wp2_with fail
  refine (bits_rd r g len cap 1 _ B _ h2 (by omega)).mono ?_
  rintro e w3 ⟨rfl, h3, g3⟩
  go_wp2_with fail
  refine (bits_rd r g len cap 8 _ B _ h3 (by omega)).mono ?_
  rintro e w4 ⟨rfl, h4, g4⟩
  go_wp2_with fail
  refine (skip_rd r g len cap _ B _ h4).mono ?_
  rintro e w5 ⟨rfl, h5, g5⟩
  go_wp2
  go_end0
  exact ⟨rfl, h5, g1.trans (g2.trans (g3.trans (g4.trans g5)))⟩

set_option maxHeartbeats 400000 in
theorem sn_101 (r g len cap : Nat) (s : St) (B : Nat → Nat) (w : World) (h : Rd w r g len cap B s)
    (he : (((rBits (bitOf B) (8 * len) 1 s).1 : Int) == 1) = true) (hd : (((rBits (bitOf B) (8 * len) 1 (rBits (bitOf B) (8 * len) 1 s).2).1 : Int) == 1) = false) (hx : (((rBits (bitOf B) (8 * len) 1 (rBits (bitOf B) (8 * len) 1 (rBits (bitOf B) (8 * len) 1 s).2).2).1 : Int) == 1) = true) :
    Calls Try.prog 38 #[.pointer (some ⟨r, 0, none⟩)] w fun e w' => e = .returned (.tuple #[]) ∧ Rd w' r g len cap B (rSkip (bitOf B) (8 * len) (rProt (bitOf B) (8 * len) (rBits (bitOf B) (8 * len) 8 (rBits (bitOf B) (8 * len) 1 (rBits (bitOf B) (8 * len) 1 (rBits (bitOf B) (8 * len) 1 s).2).2).2).2)) ∧ w.grownBy w' (some r) := by
  go_enter Try.func38, Try.ntmps38
  go_wp2_with fail
  refine (bits_rd r g len cap 1 s B w h (by omega)).mono ?_
  rintro e w1 ⟨rfl, h1, g1⟩
  go_wp2_with fail
  refine (bits_rd r g len cap 1 _ B _ h1 (by omega)).mono ?_
  rintro e w2 ⟨rfl, h2, g2⟩
  go_wp2_with fail
  refine (bits_rd r g len cap 1 _ B _ h2 (by omega)).mono ?_
  rintro e w3 ⟨rfl, h3, g3⟩
  go_wp2_with fail
  refine (bits_rd r g len cap 8 _ B _ h3 (by omega)).mono ?_
  rintro e w4 ⟨rfl, h4, g4⟩
  go_wp2_with fail
  refine (prot_rd r g len cap _ B _ h4).mono ?_
  rintro e w5 ⟨rfl, h5, g5⟩
  go_wp2_with fail
  refine (skip_rd r g len cap _ B _ h5).mono ?_
  rintro e w6 ⟨rfl, h6, g6⟩
  go_wp2
  go_end0
  exact ⟨rfl, h6, g1.trans (g2.trans (g3.trans (g4.trans (g5.trans g6))))⟩

set_option maxHeartbeats 400000 in
theorem sn_110 (r g len cap : Nat) (s : St) (B : Nat → Nat) (w : World) (h : Rd w r g len cap B s)
    (he : (((rBits (bitOf B) (8 * len) 1 s).1 : Int) == 1) = true) (hd : (((rBits (bitOf B) (8 * len) 1 (rBits (bitOf B) (8 * len) 1 s).2).1 : Int) == 1) = true) (hx : (((rBits (bitOf B) (8 * len) 1 (rBits (bitOf B) (8 * len) 1 (rBits (bitOf B) (8 * len) 1 s).2).2).1 : Int) == 1) = false) :
    Calls Try.prog 38 #[.pointer (some ⟨r, 0, none⟩)] w fun e w' => e = .returned (.tuple #[]) ∧ Rd w' r g len cap B (rSkip (bitOf B) (8 * len) (rOctets (8 * len) 3 (rBits (bitOf B) (8 * len) 8 (rBits (bitOf B) (8 * len) 1 (rBits (bitOf B) (8 * len) 1 (rBits (bitOf B) (8 * len) 1 s).2).2).2).2)) ∧ w.grownBy w' (some r) := by
  go_enter Try.func38, Try.ntmps38
  go_wp2_with fail
  refine (bits_rd r g len cap 1 s B w h (by omega)).mono ?_
  rintro e w1 ⟨rfl, h1, g1⟩
  go_wp2_with fail
  refine (bits_rd r g len cap 1 _ B _ h1 (by omega)).mono ?_
  rintro e w2 ⟨rfl, h2, g2⟩
  go_wp2_with fail
  refine (bits_rd r g len cap 1 _ B _ h2 (by omega)).mono ?_
  rintro e w3 ⟨rfl, h3, g3⟩
  go_wp2_with fail
  refine (bits_rd r g len cap 8 _ B _ h3 (by omega)).mono ?_
  rintro e w4 ⟨rfl, h4, g4⟩
  go_wp2_with fail
  refine (octets_rd r g len cap 3 _ B _ h4 (by omega)).mono ?_
  rintro e w5 ⟨v5, rfl, h5, g5⟩
  go_wp2_with fail
  refine (skip_rd r g len cap _ B _ h5).mono ?_
  rintro e w6 ⟨rfl, h6, g6⟩
  go_wp2
  go_end0
  exact ⟨rfl, h6, g1.trans (g2.trans (g3.trans (g4.trans (g5.trans g6))))⟩

set_option maxHeartbeats 400000 in
theorem sn_111 (r g len cap : Nat) (s : St) (B : Nat → Nat) (w : World) (h : Rd w r g len cap B s)
    (he : (((rBits (bitOf B) (8 * len) 1 s).1 : Int) == 1) = true) (hd : (((rBits (bitOf B) (8 * len) 1 (rBits (bitOf B) (8 * len) 1 s).2).1 : Int) == 1) = true) (hx : (((rBits (bitOf B) (8 * len) 1 (rBits (bitOf B) (8 * len) 1 (rBits (bitOf B) (8 * len) 1 s).2).2).1 : Int) == 1) = true) :
    Calls Try.prog 38 #[.pointer (some ⟨r, 0, none⟩)] w fun e w' => e = .returned (.tuple #[]) ∧ Rd w' r g len cap B (rSkip (bitOf B) (8 * len) (rProt (bitOf B) (8 * len) (rOctets (8 * len) 3 (rBits (bitOf B) (8 * len) 8 (rBits (bitOf B) (8 * len) 1 (rBits (bitOf B) (8 * len) 1 (rBits (bitOf B) (8 * len) 1 s).2).2).2).2))) ∧ w.grownBy w' (some r) := by
  go_enter Try.func38, Try.ntmps38
  go_wp2_with fail
  refine (bits_rd r g len cap 1 s B w h (by omega)).mono ?_
  rintro e w1 ⟨rfl, h1, g1⟩
  go_wp2_with fail
  refine (bits_rd r g len cap 1 _ B _ h1 (by omega)).mono ?_
  rintro e w2 ⟨rfl, h2, g2⟩
  go_wp2_with fail
  refine (bits_rd r g len cap 1 _ B _ h2 (by omega)).mono ?_
  rintro e w3 ⟨rfl, h3, g3⟩
  go_wp2_with fail
  refine (bits_rd r g len cap 8 _ B _ h3 (by omega)).mono ?_
  rintro e w4 ⟨rfl, h4, g4⟩
  go_wp2_with fail
  refine (octets_rd r g len cap 3 _ B _ h4 (by omega)).mono ?_
  rintro e w5 ⟨v5, rfl, h5, g5⟩
  go_wp2_with fail
  refine (prot_rd r g len cap _ B _ h5).mono ?_
  rintro e w6 ⟨rfl, h6, g6⟩
  go_wp2_with fail
  refine (skip_rd r g len cap _ B _ h6).mono ?_
  rintro e w7 ⟨rfl, h7, g7⟩
  go_wp2
  go_end0
  exact ⟨rfl, h7, g1.trans (g2.trans (g3.trans (g4.trans (g5.trans (g6.trans g7)))))⟩

theorem one_true {n : Nat} (h : n = 1) : ((n : Int) == 1) = true := by rw [h]; rfl
theorem one_false {n : Nat} (h : n = 0) : ((n : Int) == 1) = false := by rw [h]; rfl

/-- THE CONTRACT of 'skipSNSSAI'. -/
theorem sn_rd (r g len cap : Nat) (s : St) (B : Nat → Nat) (w : World) (h : Rd w r g len cap B s) :
    Calls Try.prog 38 #[.pointer (some ⟨r, 0, none⟩)] w fun e w' => e = .returned (.tuple #[]) ∧ Rd w' r g len cap B (rSn (bitOf B) (8 * len) s) ∧ w.grownBy w' (some r) := by
  unfold rSn
  simp only
  rcases rBits1 (bitOf B) (8 * len) s with he | he <;> rcases rBits1 (bitOf B) (8 * len) (rBits (bitOf B) (8 * len) 1 s).2 with hd | hd <;>
    rcases rBits1 (bitOf B) (8 * len) (rBits (bitOf B) (8 * len) 1 (rBits (bitOf B) (8 * len) 1 s).2).2 with hx | hx
  · rw [if_neg (by rw [he]; decide), if_neg (by rw [hx]; decide), if_neg (by rw [hd]; decide)]
    exact sn_000 r g len cap s B w h (one_false he) (one_false hd) (one_false hx)
  · rw [if_neg (by rw [he]; decide), if_pos hx, if_neg (by rw [hd]; decide)]
    exact sn_001 r g len cap s B w h (one_false he) (one_false hd) (one_true hx)
  · rw [if_neg (by rw [he]; decide), if_neg (by rw [hx]; decide), if_pos hd]
    exact sn_010 r g len cap s B w h (one_false he) (one_true hd) (one_false hx)
  · rw [if_neg (by rw [he]; decide), if_pos hx, if_pos hd]
    exact sn_011 r g len cap s B w h (one_false he) (one_true hd) (one_true hx)
  · rw [if_pos he, if_neg (by rw [hx]; decide), if_neg (by rw [hd]; decide)]
    exact sn_100 r g len cap s B w h (one_true he) (one_false hd) (one_false hx)
  · rw [if_pos he, if_pos hx, if_neg (by rw [hd]; decide)]
    exact sn_101 r g len cap s B w h (one_true he) (one_false hd) (one_true hx)
  · rw [if_pos he, if_neg (by rw [hx]; decide), if_pos hd]
    exact sn_110 r g len cap s B w h (one_true he) (one_true hd) (one_false hx)
  · rw [if_pos he, if_pos hx, if_pos hd]
    exact sn_111 r g len cap s B w h (one_true he) (one_true hd) (one_true hx)

theorem zzskip_rd (r g len cap : Nat) (s : St) (B : Nat → Nat) (w : World) (h : Rd w r g len cap B s) :
    Calls Try.prog 23 #[.pointer (some ⟨r, 0, none⟩)] w fun e w' => e = .returned (.tuple #[]) ∧ Rd w' r g len cap B (rSkip (bitOf B) (8 * len) s) ∧ w.grownBy w' (some r) := by
  go_enter Try.func23, Try.ntmps23
  go_wp2_with fail
  refine (skip_rd r g len cap s B w h).mono ?_
  rintro e w1 ⟨rfl, h1, g1⟩
  go_wp2
  go_end0
  exact ⟨rfl, h1, g1⟩
theorem zzsn_rd (r g len cap : Nat) (s : St) (B : Nat → Nat) (w : World) (h : Rd w r g len cap B s) :
    Calls Try.prog 29 #[.pointer (some ⟨r, 0, none⟩)] w fun e w' => e = .returned (.tuple #[]) ∧ Rd w' r g len cap B (rSn (bitOf B) (8 * len) s) ∧ w.grownBy w' (some r) := by
  go_enter Try.func29, Try.ntmps29
  go_wp2_with fail
  refine (sn_rd r g len cap s B w h).mono ?_
  rintro e w1 ⟨rfl, h1, g1⟩
  go_wp2
  go_end0
  exact ⟨rfl, h1, g1⟩
theorem state_rd (r g len cap : Nat) (s : St) (B : Nat → Nat) (w : World) (h : Rd w r g len cap B s) :
    Calls Try.prog 24 #[.pointer (some ⟨r, 0, none⟩)] w fun e w' => e = .returned (.tuple #[.int .i64 (s.1 : Int), .bool s.2]) ∧ w.grownBy w' (some r) := by
  obtain ⟨c0, c1, c2, z0⟩ := rd_cells h.cells
  go_enter Try.func24, Try.ntmps24
  go_wp2
  go_quiet (fail)
  go_wp2
  go_ret2
  exact ⟨rfl, grown_drewN _ _ _⟩
theorem new_rd (g len cap p : Nat) (w : World) :
    Calls Try.prog 22 #[.slice (some ⟨g, 0, none⟩) len cap, .int .i64 (p : Int), .bool false] w fun e w' => e = .returned (.pointer (some ⟨w.heap.size, 0, none⟩)) ∧ w' = w.alloc (rdCells g len cap (p, false)) := by
  go_enter Try.func22, Try.ntmps22
  go_wp2
  go_ret
  exact ⟨rfl, rfl⟩
end Go.Proofs.Qxb6002696a
