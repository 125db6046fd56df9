/- The plain writer, and the plain law: the reader keeps step with the writer. No Go in sight. -/
import Derived.Test.Qxb6002696aPlain
namespace Go.Proofs.Qxb6002696a
set_option linter.unusedVariables false

/-! ### the writer -/
def bitsN (v : Nat) : Nat → List Bool
  | 0 => []
  | n + 1 => v.testBit n :: bitsN v n
def pad (k : Nat) : Nat := (8 - k % 8) % 8
def wAlign (bs : List Bool) : List Bool := bs ++ List.replicate (pad bs.length) false
def wLength (bs : List Bool) (n : Nat) : List Bool := if n < 128 then wAlign bs ++ bitsN n 8 else wAlign bs ++ bitsN (32768 + n) 16
def wFill (v : Nat) : Nat → List Bool
  | 0 => []
  | n + 1 => wFill v n ++ bitsN v 8
def wOpen (bs : List Bool) (n v : Nat) : List Bool := wLength bs n ++ wFill v n
def wOpens (sizes : List Nat) (v : Nat) : List Bool → Nat → List Bool → List Bool
  | [], _, bs => bs
  | b :: ps, i, bs => wOpens sizes v ps (i + 1) (if b = true then wOpen bs (sizes[i]?.getD 0) v else bs)
def wHead (bs : List Bool) (n : Nat) (long : Bool) : List Bool :=
  if n ≤ 64 ∧ long = false then bs ++ bitsN 0 1 ++ bitsN (n - 1) 6 else wLength (bs ++ bitsN 1 1) n
def wExt (bs pres : List Bool) (sizes : List Nat) (long : Bool) (v : Nat) : List Bool :=
  wOpens sizes v pres 0 (wHead bs pres.length long ++ pres)
def wItem (bs : List Bool) (i n v : Nat) : List Bool := wOpen (wAlign bs ++ bitsN (i % 65536) 16 ++ bitsN (i % 3) 2) n v
def wItems (v : Nat) : List Nat → Nat → List Bool → List Bool
  | [], _, bs => bs
  | z :: zs, i, bs => wItems v zs (i + 1) (wItem bs i z v)
def wSn (bs : List Bool) (sst : Nat) (hasSD : Bool) (sd : Nat) (ie : List Nat) (pres : List Bool) (sizes : List Nat) (long : Bool) (v : Nat) : List Bool :=
  let b1 := bs ++ bitsN (!pres.isEmpty).toNat 1 ++ bitsN hasSD.toNat 1 ++ bitsN (!ie.isEmpty).toNat 1 ++ bitsN sst 8
  let b2 := if hasSD = true then wAlign b1 ++ bitsN (sd % 16777216) 24 else b1
  let b3 := if ie.isEmpty = true then b2 else wItems v ie 0 (wAlign b2 ++ bitsN (ie.length - 1) 16)
  if pres.isEmpty = true then b3 else wExt b3 pres sizes long v

/-! ### lengths and prefixes -/
theorem bitsN_length (v : Nat) : ∀ n, (bitsN v n).length = n
  | 0 => rfl
  | n + 1 => by rw [bitsN, List.length_cons, bitsN_length v n]
theorem bitsN_get (v : Nat) : ∀ (n j : Nat), j < n → (bitsN v n)[j]? = some (v.testBit (n - 1 - j))
  | 0, _, h => by omega
  | n + 1, 0, _ => by simp [bitsN]
  | n + 1, j + 1, h => by
    rw [bitsN, List.getElem?_cons_succ, bitsN_get v n j (by omega)]
    congr 2; omega
theorem wFill_length (v : Nat) : ∀ n, (wFill v n).length = 8 * n
  | 0 => rfl
  | n + 1 => by rw [wFill, List.length_append, wFill_length v n, bitsN_length]; omega
theorem pad_al (k : Nat) : k + pad k = al k := by unfold pad al; omega
theorem wAlign_length (bs : List Bool) : (wAlign bs).length = al bs.length := by rw [wAlign, List.length_append, List.length_replicate, pad_al]
theorem al_al (k : Nat) : al (al k) = al k := by unfold al; omega
theorem le_al (k : Nat) : k ≤ al k := by unfold al; omega

theorem wAlign_pre (bs : List Bool) : bs <+: wAlign bs := List.prefix_append _ _
theorem wLength_pre (bs : List Bool) (n : Nat) : bs <+: wLength bs n := by
  unfold wLength
  split
  · exact (wAlign_pre bs).trans (List.prefix_append _ _)
  · exact (wAlign_pre bs).trans (List.prefix_append _ _)
theorem wOpen_pre (bs : List Bool) (n v : Nat) : bs <+: wOpen bs n v := (wLength_pre bs n).trans (List.prefix_append _ _)
theorem wOpens_pre (sizes : List Nat) (v : Nat) : ∀ (ps : List Bool) (i : Nat) (bs : List Bool), bs <+: wOpens sizes v ps i bs
  | [], _, bs => List.prefix_rfl
  | b :: ps, i, bs => by
    rw [wOpens]
    refine List.IsPrefix.trans ?_ (wOpens_pre sizes v ps (i + 1) _)
    split
    · exact wOpen_pre _ _ _
    · exact List.prefix_rfl
theorem wItem_pre (bs : List Bool) (i n v : Nat) : bs <+: wItem bs i n v :=
  (((wAlign_pre bs).trans (List.prefix_append _ _)).trans (List.prefix_append _ _)).trans (wOpen_pre _ _ _)
theorem wItems_pre (v : Nat) : ∀ (zs : List Nat) (i : Nat) (bs : List Bool), bs <+: wItems v zs i bs
  | [], _, _ => List.prefix_rfl
  | z :: zs, i, bs => (wItem_pre bs i z v).trans (wItems_pre v zs (i + 1) _)
theorem wHead_pre (bs : List Bool) (n : Nat) (long : Bool) : bs <+: wHead bs n long := by
  unfold wHead
  split
  · rw [List.append_assoc]; exact List.prefix_append _ _
  · exact (List.prefix_append _ _).trans (wLength_pre _ _)
theorem wExt_pre (bs pres : List Bool) (sizes : List Nat) (long : Bool) (v : Nat) : bs <+: wExt bs pres sizes long v :=
  ((wHead_pre bs _ long).trans (List.prefix_append _ _)).trans (wOpens_pre _ _ _ _ _)

/-! ### what the reader sees -/
def Agree (f : Nat → Bool) (L : Nat) (bs : List Bool) : Prop := ∀ i b, i < L → bs[i]? = some b → f i = b
theorem Agree.pre {f : Nat → Bool} {L : Nat} {bs bs' : List Bool} (h : Agree f L bs') (hp : bs <+: bs') : Agree f L bs := by
  obtain ⟨t, rfl⟩ := hp
  intro i b hi hb
  refine h i b hi ?_
  rw [List.getElem?_append_left (List.getElem?_eq_some_iff.1 hb).1]
  exact hb

theorem val_bits (f : Nat → Bool) (p : Nat) : ∀ (n v : Nat), (∀ j, j < n → f (p + j) = v.testBit (n - 1 - j)) → val f p n = v % 2 ^ n
  | 0, v, _ => by simp [val, Nat.mod_one]
  | n + 1, v, h => by
    have ih := val_bits f p n (v / 2) (fun j hj => by
      rw [h j (by omega), ← Nat.testBit_succ]
      congr 1; omega)
    have h0 := h n (by omega)
    have e : n + 1 - 1 - n = 0 := by omega
    rw [e, Nat.testBit_zero] at h0
    rw [val, ih, h0, Nat.pow_succ, Nat.mul_comm (2 ^ n) 2, Nat.mod_mul]
    have h2 := Nat.mod_lt v (show 2 > 0 by decide)
    by_cases hb : v % 2 = 1
    · simp [hb]; omega
    · have : v % 2 = 0 := by omega
      simp [this]

/-- The reader stands where the writer stands (or is bad, and the writer is past the end). -/
def Weak (L p : Nat) (s : St) : Prop := (s.2 = false ∧ s.1 = p) ∨ (s.2 = true ∧ L < p)
def Strong (L p : Nat) (s : St) : Prop := (s.2 = false ∧ s.1 = p ∧ p ≤ L) ∨ (s.2 = true ∧ L < p)
theorem Strong.weak {L p : Nat} {s : St} (h : Strong L p s) : Weak L p s := by
  rcases h with ⟨h1, h2, _⟩ | h
  · exact .inl ⟨h1, h2⟩
  · exact .inr h
theorem Strong.later {L p q : Nat} {s : St} (h : s.2 = true) (hp : Strong L p s) (hq : p ≤ q) : Strong L q s := by
  rcases hp with ⟨h1, _⟩ | ⟨_, h2⟩
  · rw [h] at h1; cases h1
  · exact .inr ⟨h, by omega⟩

theorem rBits_bad {f : Nat → Bool} {L n : Nat} {s : St} (h : s.2 = true) : rBits f L n s = (0, (s.1, true)) := by rw [rBits, if_pos (.inl h)]
theorem rBits_zero {f : Nat → Bool} {L n : Nat} {s : St} (h : (rBits f L n s).2.2 = true) : (rBits f L n s).1 = 0 := by
  unfold rBits at *
  split at h
  · rename_i hc; rw [if_pos hc]
  · cases h
theorem rLength_bad {f : Nat → Bool} {L : Nat} {s : St} (h : s.2 = true) : (rLength f L s).2.2 = true := by
  unfold rLength rAligned
  rw [rBits_bad (s := rAlign s) h]
  rfl
theorem rOctets_bad {L n : Nat} {s : St} (h : s.2 = true) : (rOctets L n s).2 = true := by rw [rOctets, if_pos (.inl h)]
theorem rOpen_bad {f : Nat → Bool} {L : Nat} {s : St} (h : s.2 = true) : (rOpen f L s).2 = true := rOctets_bad (rLength_bad h)
theorem rCount_bad {f : Nat → Bool} {L : Nat} : ∀ (n c : Nat) {s : St}, s.2 = true → (rCount f L n c s).2.2 = true
  | 0, _, _, h => h
  | n + 1, c, s, h => by
    rw [rCount, rBits_bad h]
    exact rCount_bad n _ rfl
theorem rOpens_bad' {f : Nat → Bool} {L : Nat} : ∀ (n : Nat) {s : St}, s.2 = true → (rOpens f L n s).2 = true
  | 0, _, h => h
  | n + 1, s, h => by rw [rOpens, if_pos h]; exact h
theorem rItems_bad' {f : Nat → Bool} {L : Nat} : ∀ (n : Nat) {s : St}, s.2 = true → (rItems f L n s).2 = true
  | 0, _, h => h
  | n + 1, s, h => by rw [rItems, if_pos h]; exact h

section
variable {f : Nat → Bool} {L : Nat}

theorem sync_bits {bs : List Bool} {s : St} {v n : Nat} (h : Weak L bs.length s) (ha : Agree f L (bs ++ bitsN v n)) (hn : 0 < n) :
    Strong L (bs ++ bitsN v n).length (rBits f L n s).2 ∧ ((rBits f L n s).2.2 = false → (rBits f L n s).1 = v % 2 ^ n) := by
  rw [List.length_append, bitsN_length]
  rcases h with ⟨h1, h2⟩ | ⟨h1, h2⟩
  · by_cases ho : L < s.1 + n
    · rw [rBits, if_pos (.inr ho)]
      exact ⟨.inr ⟨rfl, by omega⟩, by simp⟩
    · rw [rBits, if_neg (by simp [h1, ho])]
      refine ⟨.inl ⟨rfl, by simp only; omega, by omega⟩, fun _ => ?_⟩
      refine val_bits f s.1 n v fun j hj => ?_
      refine ha _ _ (by omega) ?_
      rw [h2, List.getElem?_append_right (by omega), show bs.length + j - bs.length = j by omega, bitsN_get v n j hj]
  · rw [rBits_bad h1]
    exact ⟨.inr ⟨rfl, by omega⟩, by simp⟩

theorem sync_align {bs : List Bool} {s : St} (h : Weak L bs.length s) : Weak L (wAlign bs).length (rAlign s) := by
  rw [wAlign_length]
  rcases h with ⟨h1, h2⟩ | ⟨h1, h2⟩
  · exact .inl ⟨h1, by simp [rAlign, h2]⟩
  · exact .inr ⟨h1, by have := le_al bs.length; omega⟩

theorem bitsN_split (v : Nat) (k : Nat) : ∀ m, bitsN v (m + k) = bitsN (v / 2 ^ k) m ++ bitsN v k
  | 0 => by simp [bitsN]
  | m + 1 => by
    rw [show m + 1 + k = (m + k) + 1 by omega, bitsN, bitsN_split v k m, bitsN, List.cons_append, Nat.testBit_div_two_pow]

theorem sync_length {bs : List Bool} {s : St} {n : Nat} (h : Weak L bs.length s) (ha : Agree f L (wLength bs n)) (hn : n < 16384) :
    Strong L (wLength bs n).length (rLength f L s).2 ∧ ((rLength f L s).2.2 = false → (rLength f L s).1 = n) := by
  have hw := sync_align h
  unfold wLength at *
  unfold rLength rAligned
  by_cases hs : n < 128
  · rw [if_pos hs] at ha ⊢
    obtain ⟨h1, h2⟩ := sync_bits hw ha (by omega)
    have hlt : (rBits f L 8 (rAlign s)).1 < 128 := by
      cases hb : (rBits f L 8 (rAlign s)).2.2
      · rw [h2 hb]; omega
      · rw [rBits_zero hb]; omega
    simp only
    rw [if_pos hlt]
    exact ⟨h1, fun hb => by rw [h2 hb]; omega⟩
  · rw [if_neg hs] at ha ⊢
    rw [show (16 : Nat) = 8 + 8 from rfl, bitsN_split, ← List.append_assoc] at ha ⊢
    obtain ⟨h1, h2⟩ := sync_bits hw (ha.pre (List.prefix_append _ _)) (by omega)
    simp only
    cases hb : (rBits f L 8 (rAlign s)).2.2
    · have e1 := h2 hb
      have e2 : (rBits f L 8 (rAlign s)).1 = 128 + n / 256 := by rw [e1]; omega
      rw [if_neg (by omega), if_pos (by omega)]
      obtain ⟨h3, h4⟩ := sync_bits h1.weak ha (by omega)
      exact ⟨h3, fun hb' => by simp only; rw [h4 hb']; omega⟩
    · rw [if_pos (by rw [rBits_zero hb]; omega)]
      exact ⟨h1.later hb (by simp only [List.length_append]; omega), fun h => by rw [hb] at h; cases h⟩

theorem sync_octets {p n : Nat} {s : St} (h : Strong L p s) (hp : al p = p) : Strong L (p + 8 * n) (rOctets L n s) := by
  rcases h with ⟨h1, h2, h3⟩ | ⟨h1, h2⟩
  · by_cases ho : L < al s.1 + 8 * n
    · rw [rOctets, if_pos (.inr ho)]
      exact .inr ⟨rfl, by rw [h2, hp] at ho; exact ho⟩
    · rw [rOctets, if_neg (by simp [h1, ho])]
      rw [h2, hp] at ho ⊢
      exact .inl ⟨rfl, rfl, by omega⟩
  · exact .inr ⟨rOctets_bad h1, by omega⟩

theorem sync_octets' {p n : Nat} {s : St} (h : Weak L p s) : Strong L (al p + 8 * n) (rOctets L n s) := by
  rcases h with ⟨h1, h2⟩ | ⟨h1, h2⟩
  · by_cases ho : L < al s.1 + 8 * n
    · rw [rOctets, if_pos (.inr ho)]
      exact .inr ⟨rfl, by rw [h2] at ho; exact ho⟩
    · rw [rOctets, if_neg (by simp [h1, ho])]
      rw [h2] at ho ⊢
      exact .inl ⟨rfl, rfl, by omega⟩
  · exact .inr ⟨rOctets_bad h1, by have := le_al p; omega⟩

theorem wLength_al (bs : List Bool) (n : Nat) : al (wLength bs n).length = (wLength bs n).length := by
  unfold wLength
  split <;> rw [List.length_append, wAlign_length, bitsN_length] <;> (unfold al; omega)

theorem sync_open {bs : List Bool} {s : St} {n v : Nat} (h : Weak L bs.length s) (ha : Agree f L (wOpen bs n v)) (hn : n < 16384) : Strong L (wOpen bs n v).length (rOpen f L s) := by
  unfold wOpen at *
  obtain ⟨h1, h2⟩ := sync_length h (ha.pre (List.prefix_append _ _)) hn
  rw [List.length_append, wFill_length]
  unfold rOpen
  cases hb : (rLength f L s).2.2
  · rw [h2 hb]
    exact sync_octets h1 (wLength_al bs n)
  · rcases h1 with ⟨h3, _⟩ | ⟨_, h4⟩
    · rw [hb] at h3; cases h3
    · exact .inr ⟨rOctets_bad hb, by omega⟩

/-- How many are there. -/
def countT : List Bool → Nat
  | [] => 0
  | b :: ps => b.toNat + countT ps

theorem bitsN_one (b : Bool) : bitsN b.toNat 1 = [b] := by cases b <;> decide

theorem sync_count : ∀ (ps bs : List Bool) (c : Nat) (s : St), Strong L bs.length s → Agree f L (bs ++ ps) →
    Strong L (bs ++ ps).length (rCount f L ps.length c s).2 ∧ ((rCount f L ps.length c s).2.2 = false → (rCount f L ps.length c s).1 = c + countT ps)
  | [], bs, c, s, h, _ => by
    rw [List.append_nil]
    exact ⟨h, fun _ => rfl⟩
  | b :: ps, bs, c, s, h, ha => by
    have e : bs ++ b :: ps = (bs ++ bitsN b.toNat 1) ++ ps := by rw [bitsN_one]; simp
    rw [e] at ha ⊢
    obtain ⟨h1, h2⟩ := sync_bits h.weak (ha.pre (List.prefix_append _ _)) (by omega)
    obtain ⟨h3, h4⟩ := sync_count ps _ (c + (rBits f L 1 s).1) _ h1 ha
    rw [List.length_cons, rCount]
    refine ⟨h3, fun hb => ?_⟩
    rw [h4 hb]
    cases hb' : (rBits f L 1 s).2.2
    · rw [h2 hb', countT]
      have : b.toNat < 2 := b.toNat_lt
      omega
    · have := rCount_bad (f := f) (L := L) ps.length (c + (rBits f L 1 s).1) hb'
      rw [this] at hb; cases hb

theorem sync_opens (sizes : List Nat) (v : Nat) (hz : ∀ z ∈ sizes, z < 16384) : ∀ (ps : List Bool) (i : Nat) (bs : List Bool) (s : St), Strong L bs.length s → Agree f L (wOpens sizes v ps i bs) →
    Strong L (wOpens sizes v ps i bs).length (rOpens f L (countT ps) s)
  | [], _, bs, s, h, _ => h
  | false :: ps, i, bs, s, h, ha => by
    rw [wOpens] at ha ⊢
    have := sync_opens sizes v hz ps (i + 1) bs s h ha
    simpa [countT] using this
  | true :: ps, i, bs, s, h, ha => by
    rw [wOpens, if_pos rfl] at ha ⊢
    have hsz : sizes[i]?.getD 0 < 16384 := by
      cases hg : sizes[i]? with
      | none => simp
      | some z => simpa using hz z (List.mem_of_getElem? hg)
    rw [countT, show true.toNat + countT ps = countT ps + 1 by simp; omega, rOpens]
    have h1 := sync_open h.weak (ha.pre (wOpens_pre _ _ _ _ _)) hsz
    cases hb : s.2
    · rw [if_neg (by simp)]
      exact sync_opens sizes v hz ps (i + 1) _ _ h1 ha
    · rw [if_pos rfl]
      exact h.later hb (((wOpen_pre bs _ v).trans (wOpens_pre _ _ _ _ _)).length_le)

theorem sync_head {bs : List Bool} {s : St} {n : Nat} {long : Bool} (h : Weak L bs.length s) (ha : Agree f L (wHead bs n long)) (h1 : 1 ≤ n) (h2 : n < 16384) :
    Strong L (wHead bs n long).length (rHead f L s).2 ∧ ((rHead f L s).2.2 = false → (rHead f L s).1 = n) := by
  unfold wHead at *
  unfold rHead
  simp only
  by_cases hc : n ≤ 64 ∧ long = false
  · rw [if_pos hc] at ha ⊢
    obtain ⟨a1, a2⟩ := sync_bits h (ha.pre (List.prefix_append _ _)) (by omega)
    have e0 : (rBits f L 1 s).1 = 0 := by
      cases hb : (rBits f L 1 s).2.2
      · rw [a2 hb]
      · exact rBits_zero hb
    rw [if_pos e0]
    obtain ⟨a3, a4⟩ := sync_bits a1.weak ha (by omega)
    exact ⟨a3, fun hb => by rw [a4 hb]; omega⟩
  · rw [if_neg hc] at ha ⊢
    obtain ⟨a1, a2⟩ := sync_bits h (ha.pre (wLength_pre _ _)) (by omega)
    cases hb : (rBits f L 1 s).2.2
    · rw [if_neg (by rw [a2 hb]; decide)]
      exact sync_length a1.weak ha h2
    · rw [if_pos (rBits_zero hb)]
      have hb6 : (rBits f L 6 (rBits f L 1 s).2).2.2 = true := by rw [rBits_bad hb]
      refine ⟨?_, fun h => by simp only at h; rw [hb6] at h; cases h⟩
      rcases a1 with ⟨a3, _⟩ | ⟨_, a4⟩
      · rw [hb] at a3; cases a3
      · exact .inr ⟨hb6, Nat.lt_of_lt_of_le a4 (wLength_pre _ _).length_le⟩

theorem sync_ext {bs pres : List Bool} {sizes : List Nat} {long : Bool} {v : Nat} {s : St} (h : Weak L bs.length s) (ha : Agree f L (wExt bs pres sizes long v)) (h1 : 1 ≤ pres.length) (h2 : pres.length < 16384) (hz : ∀ z ∈ sizes, z < 16384) :
    Strong L (wExt bs pres sizes long v).length (rSkip f L s) := by
  unfold wExt at *
  unfold rSkip
  simp only
  have ha1 := ha.pre (wOpens_pre _ _ _ _ _)
  obtain ⟨a1, a2⟩ := sync_head h (ha1.pre (List.prefix_append _ _)) h1 h2
  cases hb : (rHead f L s).2.2
  · rw [a2 hb]
    obtain ⟨a3, a4⟩ := sync_count pres _ 0 _ a1 ha1
    cases hb2 : (rCount f L pres.length 0 (rHead f L s).2).2.2
    · rw [a4 hb2, Nat.zero_add]
      exact sync_opens sizes v hz pres 0 _ _ a3 ha
    · have := rOpens_bad' (f := f) (L := L) (rCount f L pres.length 0 (rHead f L s).2).1 hb2
      rcases a3 with ⟨a5, _⟩ | ⟨_, a6⟩
      · rw [hb2] at a5; cases a5
      · exact .inr ⟨this, Nat.lt_of_lt_of_le a6 (wOpens_pre _ _ _ _ _).length_le⟩
  · have b1 := rCount_bad (f := f) (L := L) (rHead f L s).1 0 hb
    have b2 := rOpens_bad' (f := f) (L := L) (rCount f L (rHead f L s).1 0 (rHead f L s).2).1 b1
    rcases a1 with ⟨a5, _⟩ | ⟨_, a6⟩
    · rw [hb] at a5; cases a5
    · exact .inr ⟨b2, Nat.lt_of_lt_of_le a6 ((List.prefix_append _ _).trans (wOpens_pre _ _ _ _ _)).length_le⟩

theorem sync_item {bs : List Bool} {s : St} {i n v : Nat} (h : Weak L bs.length s) (ha : Agree f L (wItem bs i n v)) (hn : n < 16384) : Strong L (wItem bs i n v).length (rItem f L s) := by
  unfold wItem at *
  unfold rItem rAligned
  have ha2 := ha.pre (wOpen_pre _ _ _)
  have a1 := (sync_bits (sync_align h) (ha2.pre (List.prefix_append _ _)) (by omega)).1
  have a2 := (sync_bits a1.weak ha2 (by omega)).1
  exact sync_open a2.weak ha hn

theorem sync_items (v : Nat) : ∀ (zs : List Nat) (i : Nat) (bs : List Bool) (s : St), (∀ z ∈ zs, z < 16384) → Strong L bs.length s → Agree f L (wItems v zs i bs) →
    Strong L (wItems v zs i bs).length (rItems f L zs.length s)
  | [], _, _, _, _, h, _ => h
  | z :: zs, i, bs, s, hz, h, ha => by
    rw [wItems] at ha ⊢
    rw [List.length_cons, rItems]
    cases hb : s.2
    · rw [if_neg (by simp)]
      exact sync_items v zs (i + 1) _ _ (fun x hx => hz x (List.mem_cons_of_mem _ hx)) (sync_item h.weak (ha.pre (wItems_pre _ _ _ _)) (hz z List.mem_cons_self)) ha
    · rw [if_pos rfl]
      exact h.later hb ((wItem_pre bs i z v).trans (wItems_pre _ _ _ _)).length_le

theorem sync_prot {bs : List Bool} {s : St} {v : Nat} {ie : List Nat} (h : Weak L bs.length s) (ha : Agree f L (wItems v ie 0 (wAlign bs ++ bitsN (ie.length - 1) 16))) (h1 : 1 ≤ ie.length) (h2 : ie.length < 16384) (hz : ∀ z ∈ ie, z < 16384) :
    Strong L (wItems v ie 0 (wAlign bs ++ bitsN (ie.length - 1) 16)).length (rProt f L s) := by
  unfold rProt rAligned
  simp only
  obtain ⟨a1, a2⟩ := sync_bits (sync_align h) (ha.pre (wItems_pre _ _ _ _)) (by omega)
  cases hb : (rBits f L 16 (rAlign s)).2.2
  · rw [a2 hb, show (ie.length - 1) % 2 ^ 16 + 1 = ie.length by omega]
    exact sync_items v ie 0 _ _ hz a1 ha
  · have b1 := rItems_bad' (f := f) (L := L) ((rBits f L 16 (rAlign s)).1 + 1) hb
    rcases a1 with ⟨a5, _⟩ | ⟨_, a6⟩
    · rw [hb] at a5; cases a5
    · exact .inr ⟨b1, Nat.lt_of_lt_of_le a6 (wItems_pre _ _ _ _).length_le⟩

/-- A step keeps a bad reader bad. -/
theorem rSkip_bad {s : St} (h : s.2 = true) : (rSkip f L s).2 = true := by
  unfold rSkip rHead
  simp only
  rw [rBits_bad h]
  simp only [if_true]
  rw [rBits_bad rfl]
  exact rOpens_bad' _ (rCount_bad _ _ rfl)
theorem rProt_bad {s : St} (h : s.2 = true) : (rProt f L s).2 = true := by
  unfold rProt rAligned
  simp only
  rw [rBits_bad (s := rAlign s) h]
  exact rItems_bad' _ rfl

theorem sync_sn {bs pres : List Bool} {sizes ie : List Nat} {sst sd : Nat} {hasSD long : Bool} {v : Nat} {s : St} (h : Weak L bs.length s) (ha : Agree f L (wSn bs sst hasSD sd ie pres sizes long v))
    (h2 : pres.length < 16384) (h3 : ie.length < 16384) (hz : ∀ z ∈ sizes, z < 16384) (hy : ∀ z ∈ ie, z < 16384) :
    Strong L (wSn bs sst hasSD sd ie pres sizes long v).length (rSn f L s) := by
  unfold wSn at *
  unfold rSn
  simp only at *
  -- the pieces, each a front part of the next
  generalize hb0 : bs ++ bitsN (!pres.isEmpty).toNat 1 = b0 at *
  generalize hb01 : b0 ++ bitsN hasSD.toNat 1 = b01 at *
  generalize hb02 : b01 ++ bitsN (!ie.isEmpty).toNat 1 = b02 at *
  generalize hb1 : b02 ++ bitsN sst 8 = b1 at *
  generalize hb2 : (if hasSD = true then wAlign b1 ++ bitsN (sd % 16777216) 24 else b1) = b2 at *
  generalize hb3 : (if ie.isEmpty = true then b2 else wItems v ie 0 (wAlign b2 ++ bitsN (ie.length - 1) 16)) = b3 at *
  have p3 : b3 <+: (if pres.isEmpty = true then b3 else wExt b3 pres sizes long v) := by
    split
    · exact List.prefix_rfl
    · exact wExt_pre _ _ _ _ _
  have p2 : b2 <+: b3 := by
    rw [← hb3]
    split
    · exact List.prefix_rfl
    · exact ((wAlign_pre b2).trans (List.prefix_append _ _)).trans (wItems_pre _ _ _ _)
  have p1 : b1 <+: b2 := by
    rw [← hb2]
    split
    · exact (wAlign_pre b1).trans (List.prefix_append _ _)
    · exact List.prefix_rfl
  have a3 := ha.pre p3
  have a2 := a3.pre p2
  have a1 := a2.pre p1
  have q02 : b02 <+: b1 := by rw [← hb1]; exact List.prefix_append _ _
  have q01 : b01 <+: b02 := by rw [← hb02]; exact List.prefix_append _ _
  have q0 : b0 <+: b01 := by rw [← hb01]; exact List.prefix_append _ _
  -- the three flags and the sst
  obtain ⟨e1, e2⟩ := sync_bits (n := 1) (v := (!pres.isEmpty).toNat) h (by rw [hb0]; exact ((a1.pre q02).pre q01).pre q0) (by omega)
  rw [hb0] at e1
  obtain ⟨d1, d2⟩ := sync_bits (n := 1) (v := hasSD.toNat) e1.weak (by rw [hb01]; exact (a1.pre q02).pre q01) (by omega)
  rw [hb01] at d1
  obtain ⟨x1, x2⟩ := sync_bits (n := 1) (v := (!ie.isEmpty).toNat) d1.weak (by rw [hb02]; exact a1.pre q02) (by omega)
  rw [hb02] at x1
  obtain ⟨t1, _⟩ := sync_bits (n := 8) (v := sst) x1.weak (by rw [hb1]; exact a1) (by omega)
  rw [hb1] at t1
  generalize rBits f L 1 s = E at *
  generalize hD : rBits f L 1 E.2 = D at *
  generalize hX : rBits f L 1 D.2 = X at *
  generalize hT : rBits f L 8 X.2 = T at *
  cases hb : T.2.2
  · -- all four were read
    have hXb : X.2.2 = false := by
      cases hxx : X.2.2
      · rfl
      · rw [rBits_bad hxx] at hT; subst hT; cases hb
    have hDb : D.2.2 = false := by
      cases hxx : D.2.2
      · rfl
      · rw [rBits_bad hxx] at hX; subst hX; cases hXb
    have hEb : E.2.2 = false := by
      cases hxx : E.2.2
      · rfl
      · rw [rBits_bad hxx] at hD; subst hD; cases hDb
    have vE := e2 hEb
    have vD := d2 hDb
    have vX := x2 hXb
    have s1 : Strong L b2.length (if D.1 = 1 then rOctets L 3 T.2 else T.2) := by
      rw [← hb2]
      cases hasSD
      · rw [if_neg (show ¬ D.1 = 1 by rw [vD]; decide), if_neg (by decide)]
        exact t1
      · rw [if_pos (show D.1 = 1 by rw [vD]; decide), if_pos rfl, List.length_append, wAlign_length, bitsN_length]
        exact sync_octets' t1.weak
    have s2 : Strong L b3.length (if X.1 = 1 then rProt f L (if D.1 = 1 then rOctets L 3 T.2 else T.2) else (if D.1 = 1 then rOctets L 3 T.2 else T.2)) := by
      rw [← hb3] at a3 ⊢
      cases hie : ie.isEmpty
      · rw [hie] at vX
        rw [hie, if_neg (by decide)] at a3
        rw [if_pos (show X.1 = 1 by rw [vX]; decide), if_neg (by decide)]
        have : 1 ≤ ie.length := by
          cases ie with
          | nil => cases hie
          | cons _ _ => simp
        exact sync_prot s1.weak a3 this h3 hy
      · rw [hie] at vX
        rw [if_neg (show ¬ X.1 = 1 by rw [vX]; decide), if_pos rfl]
        exact s1
    generalize (if X.1 = 1 then rProt f L (if D.1 = 1 then rOctets L 3 T.2 else T.2) else (if D.1 = 1 then rOctets L 3 T.2 else T.2)) = S2 at *
    cases hpe : pres.isEmpty
    · rw [hpe] at vE
      rw [hpe, if_neg (by decide)] at ha
      rw [if_pos (show E.1 = 1 by rw [vE]; decide), if_neg (by decide)]
      have : 1 ≤ pres.length := by
        cases pres with
        | nil => cases hpe
        | cons _ _ => simp
      exact sync_ext s2.weak ha this h2 hz
    · rw [hpe] at vE
      rw [if_neg (show ¬ E.1 = 1 by rw [vE]; decide), if_pos rfl]
      exact s2
  · -- bad already: it stays so
    have hlen : L < b1.length := by
      rcases t1 with ⟨a5, _⟩ | ⟨_, a6⟩
      · rw [hb] at a5; cases a5
      · exact a6
    refine .inr ⟨?_, Nat.lt_of_lt_of_le hlen ((p1.trans p2).trans p3).length_le⟩
    have s1 : (if D.1 = 1 then rOctets L 3 T.2 else T.2).2 = true := by
      split
      · exact rOctets_bad hb
      · exact hb
    have s2 : (if X.1 = 1 then rProt f L (if D.1 = 1 then rOctets L 3 T.2 else T.2) else (if D.1 = 1 then rOctets L 3 T.2 else T.2)).2 = true := by
      split
      · exact rProt_bad s1
      · exact s1
    split
    · exact rSkip_bad s2
    · exact s2

/-! ### the two laws -/
theorem ext_ends {bs pres : List Bool} {sizes : List Nat} {long : Bool} {v : Nat} (ha : Agree f L (wExt bs pres sizes long v)) (h1 : 1 ≤ pres.length) (h2 : pres.length < 16384) (hz : ∀ z ∈ sizes, z < 16384) (hL : (wExt bs pres sizes long v).length ≤ L) :
    rSkip f L (bs.length, false) = ((wExt bs pres sizes long v).length, false) := by
  rcases sync_ext (s := (bs.length, false)) (.inl ⟨rfl, rfl⟩) ha h1 h2 hz with ⟨a, b, _⟩ | ⟨_, b⟩
  · exact Prod.ext b a
  · omega
theorem ext_cut {bs pres : List Bool} {sizes : List Nat} {long : Bool} {v : Nat} (ha : Agree f L (wExt bs pres sizes long v)) (h1 : 1 ≤ pres.length) (h2 : pres.length < 16384) (hz : ∀ z ∈ sizes, z < 16384) (hL : L < (wExt bs pres sizes long v).length) :
    (rSkip f L (bs.length, false)).2 = true := by
  rcases sync_ext (s := (bs.length, false)) (.inl ⟨rfl, rfl⟩) ha h1 h2 hz with ⟨_, _, b⟩ | ⟨a, _⟩
  · omega
  · exact a
theorem sn_ends {bs pres : List Bool} {sizes ie : List Nat} {sst sd : Nat} {hasSD long : Bool} {v : Nat} (ha : Agree f L (wSn bs sst hasSD sd ie pres sizes long v))
    (h2 : pres.length < 16384) (h3 : ie.length < 16384) (hz : ∀ z ∈ sizes, z < 16384) (hy : ∀ z ∈ ie, z < 16384) (hL : (wSn bs sst hasSD sd ie pres sizes long v).length ≤ L) :
    rSn f L (bs.length, false) = ((wSn bs sst hasSD sd ie pres sizes long v).length, false) := by
  rcases sync_sn (s := (bs.length, false)) (.inl ⟨rfl, rfl⟩) ha h2 h3 hz hy with ⟨a, b, _⟩ | ⟨_, b⟩
  · exact Prod.ext b a
  · omega
theorem sn_cut {bs pres : List Bool} {sizes ie : List Nat} {sst sd : Nat} {hasSD long : Bool} {v : Nat} (ha : Agree f L (wSn bs sst hasSD sd ie pres sizes long v))
    (h2 : pres.length < 16384) (h3 : ie.length < 16384) (hz : ∀ z ∈ sizes, z < 16384) (hy : ∀ z ∈ ie, z < 16384) (hL : L < (wSn bs sst hasSD sd ie pres sizes long v).length) :
    (rSn f L (bs.length, false)).2 = true := by
  rcases sync_sn (s := (bs.length, false)) (.inl ⟨rfl, rfl⟩) ha h2 h3 hz hy with ⟨_, _, b⟩ | ⟨a, _⟩
  · omega
  · exact a

end
end Go.Proofs.Qxb6002696a
