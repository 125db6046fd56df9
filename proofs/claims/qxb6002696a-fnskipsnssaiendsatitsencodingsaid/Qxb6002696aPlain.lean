/- The plain reader and the plain writer: bits as Bools, no Go in sight. -/
namespace Go.Proofs.Qxb6002696a

/-! ### the reader -/
def al (p : Nat) : Nat := (p + 7) / 8 * 8
/-- The number in the n bits from p on. -/
def val (f : Nat → Bool) (p : Nat) : Nat → Nat
  | 0 => 0
  | n + 1 => 2 * val f p n + (f (p + n)).toNat
theorem val_lt (f : Nat → Bool) (p : Nat) : ∀ n, val f p n < 2 ^ n
  | 0 => by simp [val]
  | n + 1 => by
    have := val_lt f p n
    have := (f (p + n)).toNat_lt
    rw [val, Nat.pow_succ]; omega

/-- The reader's state: its position in bits, and whether it is bad. -/
abbrev St := Nat × Bool
def rBits (f : Nat → Bool) (L n : Nat) (s : St) : Nat × St :=
  if s.2 = true ∨ L < s.1 + n then (0, (s.1, true)) else (val f s.1 n, (s.1 + n, false))
def rAlign (s : St) : St := (al s.1, s.2)
def rAligned (f : Nat → Bool) (L n : Nat) (s : St) : Nat × St := rBits f L n (rAlign s)
def rOctets (L n : Nat) (s : St) : St :=
  if s.2 = true ∨ L < al s.1 + 8 * n then (al s.1, true) else (al s.1 + 8 * n, false)
def rLength (f : Nat → Bool) (L : Nat) (s : St) : Nat × St :=
  let r := rAligned f L 8 s
  if r.1 < 128 then r
  else if r.1 < 192 then
    let q := rBits f L 8 r.2
    (r.1 % 64 * 256 + q.1, q.2)
  else (0, (r.2.1, true))
def rOpen (f : Nat → Bool) (L : Nat) (s : St) : St := rOctets L (rLength f L s).1 (rLength f L s).2
/-- 'for range n { present += bits(1) }'. -/
def rCount (f : Nat → Bool) (L : Nat) : Nat → Nat → St → Nat × St
  | 0, c, s => (c, s)
  | n + 1, c, s => let r := rBits f L 1 s; rCount f L n (c + r.1) r.2
/-- 'for i := 0; i < n && !bad; i++ { openType() }'. -/
def rOpens (f : Nat → Bool) (L : Nat) : Nat → St → St
  | 0, s => s
  | n + 1, s => if s.2 = true then s else rOpens f L n (rOpen f L s)
def rHead (f : Nat → Bool) (L : Nat) (s : St) : Nat × St :=
  let r := rBits f L 1 s
  if r.1 = 0 then let q := rBits f L 6 r.2; (q.1 + 1, q.2) else rLength f L r.2
def rSkip (f : Nat → Bool) (L : Nat) (s : St) : St :=
  let h := rHead f L s
  let c := rCount f L h.1 0 h.2
  rOpens f L c.1 c.2
/-- One item of the protocol extensions. -/
def rItem (f : Nat → Bool) (L : Nat) (s : St) : St := rOpen f L (rBits f L 2 (rAligned f L 16 s).2).2
def rItems (f : Nat → Bool) (L : Nat) : Nat → St → St
  | 0, s => s
  | n + 1, s => if s.2 = true then s else rItems f L n (rItem f L s)
def rProt (f : Nat → Bool) (L : Nat) (s : St) : St :=
  let r := rAligned f L 16 s
  rItems f L (r.1 + 1) r.2
def rSn (f : Nat → Bool) (L : Nat) (s : St) : St :=
  let e := rBits f L 1 s
  let d := rBits f L 1 e.2
  let x := rBits f L 1 d.2
  let t := rBits f L 8 x.2
  let s1 := if d.1 = 1 then rOctets L 3 t.2 else t.2
  let s2 := if x.1 = 1 then rProt f L s1 else s1
  if e.1 = 1 then rSkip f L s2 else s2

end Go.Proofs.Qxb6002696a
