/- The name tables, plainly: the flip points, how many lie at or below r, and what isNameRune answers. No Go in sight. -/
namespace Go.Proofs.Qxb6603688a

def startE : Nat → Int
  | 0 => 192
  | 1 => 215
  | 2 => 216
  | 3 => 247
  | 4 => 248
  | 5 => 768
  | 6 => 880
  | 7 => 894
  | 8 => 895
  | 9 => 8192
  | 10 => 8204
  | 11 => 8206
  | 12 => 8304
  | 13 => 8592
  | 14 => 11264
  | 15 => 12272
  | 16 => 12289
  | 17 => 55296
  | 18 => 63744
  | 19 => 64976
  | 20 => 65008
  | 21 => 65534
  | 22 => 65536
  | 23 => 983040
  | _ => 2147483647
def charE : Nat → Int
  | 0 => 183
  | 1 => 184
  | 2 => 192
  | 3 => 215
  | 4 => 216
  | 5 => 247
  | 6 => 248
  | 7 => 894
  | 8 => 895
  | 9 => 8192
  | 10 => 8204
  | 11 => 8206
  | 12 => 8255
  | 13 => 8257
  | 14 => 8304
  | 15 => 8592
  | 16 => 11264
  | 17 => 12272
  | 18 => 12289
  | 19 => 55296
  | 20 => 63744
  | 21 => 64976
  | 22 => 65008
  | 23 => 65534
  | 24 => 65536
  | 25 => 983040
  | _ => 2147483647
/-- How many of the first n points lie at or below r. -/
def cross (E : Nat → Int) (r : Int) : Nat → Nat
  | 0 => 0
  | n + 1 => cross E r n + if E n ≤ r then 1 else 0
theorem cross_le (E : Nat → Int) (r : Int) : ∀ n, cross E r n ≤ n
  | 0 => Nat.le_refl _
  | n + 1 => by
    have := cross_le E r n
    rw [cross]
    split <;> omega
/-- What isNameRune answers. -/
def inStart (r : Int) : Bool := decide ((192 ≤ r ∧ r ≤ 214) ∨ (216 ≤ r ∧ r ≤ 246) ∨ (248 ≤ r ∧ r ≤ 767) ∨ (880 ≤ r ∧ r ≤ 893) ∨ (895 ≤ r ∧ r ≤ 8191) ∨ (8204 ≤ r ∧ r ≤ 8205) ∨ (8304 ≤ r ∧ r ≤ 8591) ∨ (11264 ≤ r ∧ r ≤ 12271) ∨ (12289 ≤ r ∧ r ≤ 55295) ∨ (63744 ≤ r ∧ r ≤ 64975) ∨ (65008 ≤ r ∧ r ≤ 65533) ∨ (65536 ≤ r ∧ r ≤ 983039))
def inMore (r : Int) : Bool := decide (r = 183 ∨ (768 ≤ r ∧ r ≤ 879) ∨ (8255 ≤ r ∧ r ≤ 8256))
def nameB (r : Int) (first : Bool) : Bool := inStart r || (!first && inMore r)

theorem cross_below (E : Nat → Int) (r : Int) : ∀ n, (∀ k, k < n → E k ≤ r) → cross E r n = n
  | 0, _ => rfl
  | n + 1, h => by rw [cross, cross_below E r n (fun k hk => h k (by omega)), if_pos (h n (by omega))]
theorem cross_eq (E : Nat → Int) (r : Int) (m : Nat) (h1 : ∀ k, k < m → E k ≤ r) : ∀ d, (∀ k, m ≤ k → k < m + d → r < E k) → cross E r (m + d) = m
  | 0, _ => cross_below E r m h1
  | d + 1, h => by
    have := h (m + d) (by omega) (by omega)
    rw [← Nat.add_assoc, cross, cross_eq E r m h1 d (fun k a b => h k a (by omega)), if_neg (by omega)]
    rfl
theorem nameB_first (r : Int) : nameB r true = decide ((192 ≤ r ∧ r ≤ 214) ∨ (216 ≤ r ∧ r ≤ 246) ∨ (248 ≤ r ∧ r ≤ 767) ∨ (880 ≤ r ∧ r ≤ 893) ∨ (895 ≤ r ∧ r ≤ 8191) ∨ (8204 ≤ r ∧ r ≤ 8205) ∨ (8304 ≤ r ∧ r ≤ 8591) ∨ (11264 ≤ r ∧ r ≤ 12271) ∨ (12289 ≤ r ∧ r ≤ 55295) ∨ (63744 ≤ r ∧ r ≤ 64975) ∨ (65008 ≤ r ∧ r ≤ 65533) ∨ (65536 ≤ r ∧ r ≤ 983039)) := by
  simp [nameB, inStart]
theorem nameB_later (r : Int) : nameB r false = decide (((192 ≤ r ∧ r ≤ 214) ∨ (216 ≤ r ∧ r ≤ 246) ∨ (248 ≤ r ∧ r ≤ 767) ∨ (880 ≤ r ∧ r ≤ 893) ∨ (895 ≤ r ∧ r ≤ 8191) ∨ (8204 ≤ r ∧ r ≤ 8205) ∨ (8304 ≤ r ∧ r ≤ 8591) ∨ (11264 ≤ r ∧ r ≤ 12271) ∨ (12289 ≤ r ∧ r ≤ 55295) ∨ (63744 ≤ r ∧ r ≤ 64975) ∨ (65008 ≤ r ∧ r ≤ 65533) ∨ (65536 ≤ r ∧ r ≤ 983039)) ∨ (r = 183 ∨ (768 ≤ r ∧ r ≤ 879) ∨ (8255 ≤ r ∧ r ≤ 8256))) := by
  unfold nameB inStart inMore
  simp only [Bool.not_false, Bool.true_and, ← Bool.decide_or]
theorem fst_mono : ∀ i : Fin 24, ∀ j : Fin 24, i.1 ≤ j.1 → startE i.1 ≤ startE j.1 := by decide +kernel
theorem fst_cross (r : Int) (m : Nat) (hm : m ≤ 24) (h1 : m = 0 ∨ startE (m - 1) ≤ r) (h2 : m = 24 ∨ r < startE m) : cross startE r 24 = m := by
  have e : 24 = m + (24 - m) := by omega
  rw [e]
  refine cross_eq startE r m (fun k hk => ?_) (24 - m) (fun k hk1 hk2 => ?_)
  · rcases h1 with h1 | h1
    · omega
    · have := fst_mono ⟨k, by omega⟩ ⟨m - 1, by omega⟩ (by simp only; omega)
      simp only at this
      omega
  · rcases h2 with h2 | h2
    · omega
    · have := fst_mono ⟨m, by omega⟩ ⟨k, by omega⟩ hk1
      simp only at this
      omega
theorem fst_where (r : Int) : ∀ n, n ≤ 24 → (∃ m, m < n ∧ (m = 0 ∨ startE (m - 1) ≤ r) ∧ r < startE m) ∨ (n = 0 ∨ startE (n - 1) ≤ r)
  | 0, _ => .inr (.inl rfl)
  | n + 1, h => by
    rcases fst_where r n (by omega) with ⟨m, a, b, c⟩ | hb
    · exact .inl ⟨m, by omega, b, c⟩
    · by_cases hr : r < startE n
      · exact .inl ⟨n, by omega, hb, hr⟩
      · exact .inr (.inr (by simp only [Nat.add_sub_cancel]; omega))
theorem fst_0 (r : Int) (h2 : r < 192) : nameB r true = false := by
  rw [nameB_first, decide_eq_false_iff_not]
  omega
theorem fst_1 (r : Int) (h1 : 192 ≤ r) (h2 : r < 215) : nameB r true = true := by
  rw [nameB_first, decide_eq_true_eq]
  omega
theorem fst_2 (r : Int) (h1 : 215 ≤ r) (h2 : r < 216) : nameB r true = false := by
  rw [nameB_first, decide_eq_false_iff_not]
  omega
theorem fst_3 (r : Int) (h1 : 216 ≤ r) (h2 : r < 247) : nameB r true = true := by
  rw [nameB_first, decide_eq_true_eq]
  omega
theorem fst_4 (r : Int) (h1 : 247 ≤ r) (h2 : r < 248) : nameB r true = false := by
  rw [nameB_first, decide_eq_false_iff_not]
  omega
theorem fst_5 (r : Int) (h1 : 248 ≤ r) (h2 : r < 768) : nameB r true = true := by
  rw [nameB_first, decide_eq_true_eq]
  omega
theorem fst_6 (r : Int) (h1 : 768 ≤ r) (h2 : r < 880) : nameB r true = false := by
  rw [nameB_first, decide_eq_false_iff_not]
  omega
theorem fst_7 (r : Int) (h1 : 880 ≤ r) (h2 : r < 894) : nameB r true = true := by
  rw [nameB_first, decide_eq_true_eq]
  omega
theorem fst_8 (r : Int) (h1 : 894 ≤ r) (h2 : r < 895) : nameB r true = false := by
  rw [nameB_first, decide_eq_false_iff_not]
  omega
theorem fst_9 (r : Int) (h1 : 895 ≤ r) (h2 : r < 8192) : nameB r true = true := by
  rw [nameB_first, decide_eq_true_eq]
  omega
theorem fst_10 (r : Int) (h1 : 8192 ≤ r) (h2 : r < 8204) : nameB r true = false := by
  rw [nameB_first, decide_eq_false_iff_not]
  omega
theorem fst_11 (r : Int) (h1 : 8204 ≤ r) (h2 : r < 8206) : nameB r true = true := by
  rw [nameB_first, decide_eq_true_eq]
  omega
theorem fst_12 (r : Int) (h1 : 8206 ≤ r) (h2 : r < 8304) : nameB r true = false := by
  rw [nameB_first, decide_eq_false_iff_not]
  omega
theorem fst_13 (r : Int) (h1 : 8304 ≤ r) (h2 : r < 8592) : nameB r true = true := by
  rw [nameB_first, decide_eq_true_eq]
  omega
theorem fst_14 (r : Int) (h1 : 8592 ≤ r) (h2 : r < 11264) : nameB r true = false := by
  rw [nameB_first, decide_eq_false_iff_not]
  omega
theorem fst_15 (r : Int) (h1 : 11264 ≤ r) (h2 : r < 12272) : nameB r true = true := by
  rw [nameB_first, decide_eq_true_eq]
  omega
theorem fst_16 (r : Int) (h1 : 12272 ≤ r) (h2 : r < 12289) : nameB r true = false := by
  rw [nameB_first, decide_eq_false_iff_not]
  omega
theorem fst_17 (r : Int) (h1 : 12289 ≤ r) (h2 : r < 55296) : nameB r true = true := by
  rw [nameB_first, decide_eq_true_eq]
  omega
theorem fst_18 (r : Int) (h1 : 55296 ≤ r) (h2 : r < 63744) : nameB r true = false := by
  rw [nameB_first, decide_eq_false_iff_not]
  omega
theorem fst_19 (r : Int) (h1 : 63744 ≤ r) (h2 : r < 64976) : nameB r true = true := by
  rw [nameB_first, decide_eq_true_eq]
  omega
theorem fst_20 (r : Int) (h1 : 64976 ≤ r) (h2 : r < 65008) : nameB r true = false := by
  rw [nameB_first, decide_eq_false_iff_not]
  omega
theorem fst_21 (r : Int) (h1 : 65008 ≤ r) (h2 : r < 65534) : nameB r true = true := by
  rw [nameB_first, decide_eq_true_eq]
  omega
theorem fst_22 (r : Int) (h1 : 65534 ≤ r) (h2 : r < 65536) : nameB r true = false := by
  rw [nameB_first, decide_eq_false_iff_not]
  omega
theorem fst_23 (r : Int) (h1 : 65536 ≤ r) (h2 : r < 983040) : nameB r true = true := by
  rw [nameB_first, decide_eq_true_eq]
  omega
theorem fst_24 (r : Int) (h1 : 983040 ≤ r) : nameB r true = false := by
  rw [nameB_first, decide_eq_false_iff_not]
  omega
/-- THE PLAIN LAW. -/
theorem fst_law (r : Int) : nameB r true = decide (cross startE r 24 % 2 = 1) := by
  have key : ∃ m, m ≤ 24 ∧ (m = 0 ∨ startE (m - 1) ≤ r) ∧ (m = 24 ∨ r < startE m) := by
    rcases fst_where r 24 (Nat.le_refl _) with ⟨m, a, b, c⟩ | hb
    · exact ⟨m, by omega, b, .inr c⟩
    · exact ⟨24, Nat.le_refl _, hb, .inl rfl⟩
  obtain ⟨m, hm, h1, h2⟩ := key
  rw [fst_cross r m hm h1 h2]
  match m, hm, h1, h2 with
  | 0, _, h1, h2 => exact fst_0 r  (h2.resolve_left (by decide))
  | 1, _, h1, h2 => exact fst_1 r (h1.resolve_left (by decide)) (h2.resolve_left (by decide))
  | 2, _, h1, h2 => exact fst_2 r (h1.resolve_left (by decide)) (h2.resolve_left (by decide))
  | 3, _, h1, h2 => exact fst_3 r (h1.resolve_left (by decide)) (h2.resolve_left (by decide))
  | 4, _, h1, h2 => exact fst_4 r (h1.resolve_left (by decide)) (h2.resolve_left (by decide))
  | 5, _, h1, h2 => exact fst_5 r (h1.resolve_left (by decide)) (h2.resolve_left (by decide))
  | 6, _, h1, h2 => exact fst_6 r (h1.resolve_left (by decide)) (h2.resolve_left (by decide))
  | 7, _, h1, h2 => exact fst_7 r (h1.resolve_left (by decide)) (h2.resolve_left (by decide))
  | 8, _, h1, h2 => exact fst_8 r (h1.resolve_left (by decide)) (h2.resolve_left (by decide))
  | 9, _, h1, h2 => exact fst_9 r (h1.resolve_left (by decide)) (h2.resolve_left (by decide))
  | 10, _, h1, h2 => exact fst_10 r (h1.resolve_left (by decide)) (h2.resolve_left (by decide))
  | 11, _, h1, h2 => exact fst_11 r (h1.resolve_left (by decide)) (h2.resolve_left (by decide))
  | 12, _, h1, h2 => exact fst_12 r (h1.resolve_left (by decide)) (h2.resolve_left (by decide))
  | 13, _, h1, h2 => exact fst_13 r (h1.resolve_left (by decide)) (h2.resolve_left (by decide))
  | 14, _, h1, h2 => exact fst_14 r (h1.resolve_left (by decide)) (h2.resolve_left (by decide))
  | 15, _, h1, h2 => exact fst_15 r (h1.resolve_left (by decide)) (h2.resolve_left (by decide))
  | 16, _, h1, h2 => exact fst_16 r (h1.resolve_left (by decide)) (h2.resolve_left (by decide))
  | 17, _, h1, h2 => exact fst_17 r (h1.resolve_left (by decide)) (h2.resolve_left (by decide))
  | 18, _, h1, h2 => exact fst_18 r (h1.resolve_left (by decide)) (h2.resolve_left (by decide))
  | 19, _, h1, h2 => exact fst_19 r (h1.resolve_left (by decide)) (h2.resolve_left (by decide))
  | 20, _, h1, h2 => exact fst_20 r (h1.resolve_left (by decide)) (h2.resolve_left (by decide))
  | 21, _, h1, h2 => exact fst_21 r (h1.resolve_left (by decide)) (h2.resolve_left (by decide))
  | 22, _, h1, h2 => exact fst_22 r (h1.resolve_left (by decide)) (h2.resolve_left (by decide))
  | 23, _, h1, h2 => exact fst_23 r (h1.resolve_left (by decide)) (h2.resolve_left (by decide))
  | 24, _, h1, h2 => exact fst_24 r (h1.resolve_left (by decide))
  | m + 25, hm, _, _ => omega
theorem lat_mono : ∀ i : Fin 26, ∀ j : Fin 26, i.1 ≤ j.1 → charE i.1 ≤ charE j.1 := by decide +kernel
theorem lat_cross (r : Int) (m : Nat) (hm : m ≤ 26) (h1 : m = 0 ∨ charE (m - 1) ≤ r) (h2 : m = 26 ∨ r < charE m) : cross charE r 26 = m := by
  have e : 26 = m + (26 - m) := by omega
  rw [e]
  refine cross_eq charE r m (fun k hk => ?_) (26 - m) (fun k hk1 hk2 => ?_)
  · rcases h1 with h1 | h1
    · omega
    · have := lat_mono ⟨k, by omega⟩ ⟨m - 1, by omega⟩ (by simp only; omega)
      simp only at this
      omega
  · rcases h2 with h2 | h2
    · omega
    · have := lat_mono ⟨m, by omega⟩ ⟨k, by omega⟩ hk1
      simp only at this
      omega
theorem lat_where (r : Int) : ∀ n, n ≤ 26 → (∃ m, m < n ∧ (m = 0 ∨ charE (m - 1) ≤ r) ∧ r < charE m) ∨ (n = 0 ∨ charE (n - 1) ≤ r)
  | 0, _ => .inr (.inl rfl)
  | n + 1, h => by
    rcases lat_where r n (by omega) with ⟨m, a, b, c⟩ | hb
    · exact .inl ⟨m, by omega, b, c⟩
    · by_cases hr : r < charE n
      · exact .inl ⟨n, by omega, hb, hr⟩
      · exact .inr (.inr (by simp only [Nat.add_sub_cancel]; omega))
theorem lat_0 (r : Int) (h2 : r < 183) : nameB r false = false := by
  rw [nameB_later, decide_eq_false_iff_not]
  omega
theorem lat_1 (r : Int) (h1 : 183 ≤ r) (h2 : r < 184) : nameB r false = true := by
  rw [nameB_later, decide_eq_true_eq]
  omega
theorem lat_2 (r : Int) (h1 : 184 ≤ r) (h2 : r < 192) : nameB r false = false := by
  rw [nameB_later, decide_eq_false_iff_not]
  omega
theorem lat_3 (r : Int) (h1 : 192 ≤ r) (h2 : r < 215) : nameB r false = true := by
  rw [nameB_later, decide_eq_true_eq]
  omega
theorem lat_4 (r : Int) (h1 : 215 ≤ r) (h2 : r < 216) : nameB r false = false := by
  rw [nameB_later, decide_eq_false_iff_not]
  omega
theorem lat_5 (r : Int) (h1 : 216 ≤ r) (h2 : r < 247) : nameB r false = true := by
  rw [nameB_later, decide_eq_true_eq]
  omega
theorem lat_6 (r : Int) (h1 : 247 ≤ r) (h2 : r < 248) : nameB r false = false := by
  rw [nameB_later, decide_eq_false_iff_not]
  omega
theorem lat_7 (r : Int) (h1 : 248 ≤ r) (h2 : r < 894) : nameB r false = true := by
  rw [nameB_later, decide_eq_true_eq]
  omega
theorem lat_8 (r : Int) (h1 : 894 ≤ r) (h2 : r < 895) : nameB r false = false := by
  rw [nameB_later, decide_eq_false_iff_not]
  omega
theorem lat_9 (r : Int) (h1 : 895 ≤ r) (h2 : r < 8192) : nameB r false = true := by
  rw [nameB_later, decide_eq_true_eq]
  omega
theorem lat_10 (r : Int) (h1 : 8192 ≤ r) (h2 : r < 8204) : nameB r false = false := by
  rw [nameB_later, decide_eq_false_iff_not]
  omega
theorem lat_11 (r : Int) (h1 : 8204 ≤ r) (h2 : r < 8206) : nameB r false = true := by
  rw [nameB_later, decide_eq_true_eq]
  omega
theorem lat_12 (r : Int) (h1 : 8206 ≤ r) (h2 : r < 8255) : nameB r false = false := by
  rw [nameB_later, decide_eq_false_iff_not]
  omega
theorem lat_13 (r : Int) (h1 : 8255 ≤ r) (h2 : r < 8257) : nameB r false = true := by
  rw [nameB_later, decide_eq_true_eq]
  omega
theorem lat_14 (r : Int) (h1 : 8257 ≤ r) (h2 : r < 8304) : nameB r false = false := by
  rw [nameB_later, decide_eq_false_iff_not]
  omega
theorem lat_15 (r : Int) (h1 : 8304 ≤ r) (h2 : r < 8592) : nameB r false = true := by
  rw [nameB_later, decide_eq_true_eq]
  omega
theorem lat_16 (r : Int) (h1 : 8592 ≤ r) (h2 : r < 11264) : nameB r false = false := by
  rw [nameB_later, decide_eq_false_iff_not]
  omega
theorem lat_17 (r : Int) (h1 : 11264 ≤ r) (h2 : r < 12272) : nameB r false = true := by
  rw [nameB_later, decide_eq_true_eq]
  omega
theorem lat_18 (r : Int) (h1 : 12272 ≤ r) (h2 : r < 12289) : nameB r false = false := by
  rw [nameB_later, decide_eq_false_iff_not]
  omega
theorem lat_19 (r : Int) (h1 : 12289 ≤ r) (h2 : r < 55296) : nameB r false = true := by
  rw [nameB_later, decide_eq_true_eq]
  omega
theorem lat_20 (r : Int) (h1 : 55296 ≤ r) (h2 : r < 63744) : nameB r false = false := by
  rw [nameB_later, decide_eq_false_iff_not]
  omega
theorem lat_21 (r : Int) (h1 : 63744 ≤ r) (h2 : r < 64976) : nameB r false = true := by
  rw [nameB_later, decide_eq_true_eq]
  omega
theorem lat_22 (r : Int) (h1 : 64976 ≤ r) (h2 : r < 65008) : nameB r false = false := by
  rw [nameB_later, decide_eq_false_iff_not]
  omega
theorem lat_23 (r : Int) (h1 : 65008 ≤ r) (h2 : r < 65534) : nameB r false = true := by
  rw [nameB_later, decide_eq_true_eq]
  omega
theorem lat_24 (r : Int) (h1 : 65534 ≤ r) (h2 : r < 65536) : nameB r false = false := by
  rw [nameB_later, decide_eq_false_iff_not]
  omega
theorem lat_25 (r : Int) (h1 : 65536 ≤ r) (h2 : r < 983040) : nameB r false = true := by
  rw [nameB_later, decide_eq_true_eq]
  omega
theorem lat_26 (r : Int) (h1 : 983040 ≤ r) : nameB r false = false := by
  rw [nameB_later, decide_eq_false_iff_not]
  omega
/-- THE PLAIN LAW. -/
theorem lat_law (r : Int) : nameB r false = decide (cross charE r 26 % 2 = 1) := by
  have key : ∃ m, m ≤ 26 ∧ (m = 0 ∨ charE (m - 1) ≤ r) ∧ (m = 26 ∨ r < charE m) := by
    rcases lat_where r 26 (Nat.le_refl _) with ⟨m, a, b, c⟩ | hb
    · exact ⟨m, by omega, b, .inr c⟩
    · exact ⟨26, Nat.le_refl _, hb, .inl rfl⟩
  obtain ⟨m, hm, h1, h2⟩ := key
  rw [lat_cross r m hm h1 h2]
  match m, hm, h1, h2 with
  | 0, _, h1, h2 => exact lat_0 r  (h2.resolve_left (by decide))
  | 1, _, h1, h2 => exact lat_1 r (h1.resolve_left (by decide)) (h2.resolve_left (by decide))
  | 2, _, h1, h2 => exact lat_2 r (h1.resolve_left (by decide)) (h2.resolve_left (by decide))
  | 3, _, h1, h2 => exact lat_3 r (h1.resolve_left (by decide)) (h2.resolve_left (by decide))
  | 4, _, h1, h2 => exact lat_4 r (h1.resolve_left (by decide)) (h2.resolve_left (by decide))
  | 5, _, h1, h2 => exact lat_5 r (h1.resolve_left (by decide)) (h2.resolve_left (by decide))
  | 6, _, h1, h2 => exact lat_6 r (h1.resolve_left (by decide)) (h2.resolve_left (by decide))
  | 7, _, h1, h2 => exact lat_7 r (h1.resolve_left (by decide)) (h2.resolve_left (by decide))
  | 8, _, h1, h2 => exact lat_8 r (h1.resolve_left (by decide)) (h2.resolve_left (by decide))
  | 9, _, h1, h2 => exact lat_9 r (h1.resolve_left (by decide)) (h2.resolve_left (by decide))
  | 10, _, h1, h2 => exact lat_10 r (h1.resolve_left (by decide)) (h2.resolve_left (by decide))
  | 11, _, h1, h2 => exact lat_11 r (h1.resolve_left (by decide)) (h2.resolve_left (by decide))
  | 12, _, h1, h2 => exact lat_12 r (h1.resolve_left (by decide)) (h2.resolve_left (by decide))
  | 13, _, h1, h2 => exact lat_13 r (h1.resolve_left (by decide)) (h2.resolve_left (by decide))
  | 14, _, h1, h2 => exact lat_14 r (h1.resolve_left (by decide)) (h2.resolve_left (by decide))
  | 15, _, h1, h2 => exact lat_15 r (h1.resolve_left (by decide)) (h2.resolve_left (by decide))
  | 16, _, h1, h2 => exact lat_16 r (h1.resolve_left (by decide)) (h2.resolve_left (by decide))
  | 17, _, h1, h2 => exact lat_17 r (h1.resolve_left (by decide)) (h2.resolve_left (by decide))
  | 18, _, h1, h2 => exact lat_18 r (h1.resolve_left (by decide)) (h2.resolve_left (by decide))
  | 19, _, h1, h2 => exact lat_19 r (h1.resolve_left (by decide)) (h2.resolve_left (by decide))
  | 20, _, h1, h2 => exact lat_20 r (h1.resolve_left (by decide)) (h2.resolve_left (by decide))
  | 21, _, h1, h2 => exact lat_21 r (h1.resolve_left (by decide)) (h2.resolve_left (by decide))
  | 22, _, h1, h2 => exact lat_22 r (h1.resolve_left (by decide)) (h2.resolve_left (by decide))
  | 23, _, h1, h2 => exact lat_23 r (h1.resolve_left (by decide)) (h2.resolve_left (by decide))
  | 24, _, h1, h2 => exact lat_24 r (h1.resolve_left (by decide)) (h2.resolve_left (by decide))
  | 25, _, h1, h2 => exact lat_25 r (h1.resolve_left (by decide)) (h2.resolve_left (by decide))
  | 26, _, h1, h2 => exact lat_26 r (h1.resolve_left (by decide))
  | m + 27, hm, _, _ => omega
end Go.Proofs.Qxb6603688a
