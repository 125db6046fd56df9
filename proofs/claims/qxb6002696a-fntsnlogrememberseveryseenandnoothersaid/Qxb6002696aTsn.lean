/- The log of '(*tsnLog).seen': what its memory says, and the laws on its map. -/
import Derived.Test.Qxb6002696aBase
import Derived.Maps.OwnSet
import Derived.Deep.RegionLaw
namespace Go.Proofs.Qxb6002696a
open Go.RowKit Go.Maps
set_option linter.unusedVariables false

/-! ### plain: an interval of serial numbers and a set apart -/
def inRun (f l x : Int) : Bool := decide ((x - f) % 4294967296 ≤ (l - f) % 4294967296)
def logHas (f l : Int) (ap : Int → Bool) (x : Int) : Bool := inRun f l x || ap x
def putAp (ap : Int → Bool) (t : Int) : Int → Bool := fun x => if x = t then true else ap x
def delAp (ap : Int → Bool) (t : Int) : Int → Bool := fun x => if x = t then false else ap x

def R32 (x : Int) : Prop := 0 ≤ x ∧ x < 4294967296

theorem inRun_one {f x : Int} (hf : R32 f) (hx : R32 x) : inRun f f x = decide (x = f) := by
  unfold inRun R32 at *
  rw [decide_eq_decide]
  omega

/-- The interval grown by its next number. -/
theorem inRun_succ {f l x : Int} (hf : R32 f) (hl : R32 l) (hx : R32 x) (hs : (l - f) % 4294967296 < 4294967295) :
    inRun f ((l + 1) % 4294967296) x = (inRun f l x || decide (x = (l + 1) % 4294967296)) := by
  unfold inRun R32 at *
  rw [← Bool.decide_or, decide_eq_decide]
  omega

theorem run_succ {f l : Int} (hf : R32 f) (hl : R32 l) (hs : (l - f) % 4294967296 < 4294967295) :
    ((l + 1) % 4294967296 - f) % 4294967296 = (l - f) % 4294967296 + 1 := by
  unfold R32 at *; omega

/-- A number of the set apart that follows the interval is taken into it. -/
theorem logHas_take {f l x : Int} {ap : Int → Bool} (hf : R32 f) (hl : R32 l) (hx : R32 x) (hs : (l - f) % 4294967296 < 4294967295) (hap : ap ((l + 1) % 4294967296) = true) :
    logHas f ((l + 1) % 4294967296) (delAp ap ((l + 1) % 4294967296)) x = logHas f l ap x := by
  unfold logHas delAp
  rw [inRun_succ hf hl hx hs]
  by_cases h : x = (l + 1) % 4294967296
  · subst h; simp [hap]
  · simp [h]

/-! ### the map in memory -/
theorem Try.zero4 (w : World) : (zeroValue 4).run Try.prog w = .ok (.bool false) w := by kernel_rfl
theorem Try.law25 : Keyed Try.prog 25 := int_keyed Try.underlying25
theorem wf32 {t : Int} (ht : R32 t) : (Lit.int .u32 t).wf = true := by
  unfold R32 at ht
  have h1 : IntKind.min .u32 = 0 := by decide
  have h2 : IntKind.max .u32 = 4294967295 := by decide
  simp only [Lit.wf, h1, h2, Bool.and_eq_true, decide_eq_true_eq]; omega
theorem key32 {t : Int} (ht : R32 t) : keyOf Try.prog 25 (.int .u32 t) = some (.int .u32 t) := keyOf_int_mk Try.underlying25 (wf32 ht)

/-- The set apart as it lies in memory: a nil map and nothing; or a map of 'true's at the numbers apart, 's' of them. -/
def ApIs (w : World) (b : Nat) (mo : Option Nat) (ap : Int → Bool) (s N : Nat) : Prop :=
  (mo = none ∧ ∀ x, ap x = false) ∨
  ∃ m D, mo = some m ∧ b < m ∧ w.ownsMap (H := Unit) Try.prog 25 (plainElem Try.prog 4) m N D ∧ Maps.size D ≤ s ∧
    ∀ x, R32 x → D.atKey (.int .u32 x) (.lit (.bool false)) = .lit (.bool (ap x)) ∧ Maps.has D (.int .u32 x) = ap x

theorem plainElem_bool_inv {H : Type} {P : Program} {e : TypeId} (he : P.underlying e = some .bool) {v : Value} {z : DataW H × List MemPlace} (h : plainElem P e v = some z) : ∃ x, v = .bool x ∧ z = (.lit (.bool x), []) := by
  unfold plainElem at h
  rw [he] at h
  cases v <;> simp at h
  exact ⟨_, rfl, h.symm⟩

/-- The look-up, whatever the map. -/
theorem ApIs.look {w : World} {b : Nat} {mo : Option Nat} {ap : Int → Bool} {s N : Nat} (h : ApIs w b mo ap s N) {x : Int} (hx : R32 x) :
    (Instr.lookup 26 (.map mo) (.int .u32 x) false).run Try.prog w = .ok (.bool (ap x)) w := by
  rcases h with ⟨rfl, h⟩ | ⟨m, D, rfl, _, hown, _, hat⟩
  · rw [h x]
    exact Maps.look_nil (w := w) false Try.law25 Try.underlying26 (Try.zero4 w) (key32 hx)
  · obtain ⟨v, ps, hrun, hv⟩ := hown.lookup Try.law25 Try.underlying26 (Try.zero4 w) (plainElem_bool Try.underlying4 false) (key32 hx)
    obtain ⟨c, rfl, hc⟩ := plainElem_bool_inv Try.underlying4 hv
    rw [(hat x hx).1] at hc
    simp only [Prod.mk.injEq, DataW.lit.injEq, Lit.bool.injEq] at hc
    rw [hrun, hc.1]

/-- It stays while nothing above b turns. -/
theorem ApIs.kept {w w' : World} {b : Nat} {mo : Option Nat} {ap : Int → Bool} {s N : Nat} (h : ApIs w b mo ap s N) (hk : ∀ m, b < m → m < w.heap.size → w'.heap[m]? = w.heap[m]?) : ApIs w' b mo ap s N := by
  rcases h with ⟨rfl, h⟩ | ⟨m, D, rfl, hm, hown, hs, hat⟩
  · exact .inl ⟨rfl, h⟩
  · have hlt := hown.lt
    obtain ⟨es, clock, hb, r⟩ := hown
    exact .inr ⟨m, D, rfl, hm, ⟨es, clock, (hk m hm hlt).trans hb, r⟩, hs, hat⟩

theorem ApIs.mono {w : World} {b : Nat} {mo : Option Nat} {ap : Int → Bool} {s s' N N' : Nat} (h : ApIs w b mo ap s N) (h1 : s ≤ s') (h2 : N ≤ N') : ApIs w b mo ap s' N' := by
  rcases h with h | ⟨m, D, rfl, hm, hown, hs, hat⟩
  · exact .inl h
  · exact .inr ⟨m, D, rfl, hm, hown.mono h2, Nat.le_trans hs h1, hat⟩

theorem lit32_ne {x t : Int} (h : x ≠ t) : (Lit.int .u32 x) ≠ .int .u32 t := by
  intro e; cases e; exact h rfl

/-- A number put into a map that is there. -/
theorem ApIs.put {w : World} {b m : Nat} {ap : Int → Bool} {s N : Nat} (h : ApIs w b (some m) ap s N) (hN : N < maxLen) {t : Int} (ht : R32 t) :
    ∃ w', (Instr.mapUpdate 26 (.map (some m)) (.int .u32 t) (.bool true)).run Try.prog w = .ok () w' ∧ ApIs w' b (some m) (putAp ap t) (s + 1) (N + 1) ∧ w.mapTurned w' m := by
  rcases h with ⟨h, _⟩ | ⟨m', D, h, hm, hown, hs, hat⟩
  · cases h
  · cases h
    obtain ⟨w', hrun, hown', hturn⟩ := hown.store Try.law25 Try.underlying26 hN (key32 ht) (plainElem_bool Try.underlying4 true)
    refine ⟨w', hrun, .inr ⟨m, _, rfl, hm, hown', ?_, ?_⟩, hturn⟩
    · rw [size_put (hown.tidy Try.law25)]
      split <;> omega
    · intro x hx
      unfold putAp
      by_cases e : x = t
      · subst e
        have hkl : WideAt.IsKeyLit (Lit.int .u32 x) := trivial
        rw [if_pos rfl, atKey_put_same hown.isMap hkl, has_put_same hown.isMap hkl]
        exact ⟨rfl, rfl⟩
      · rw [if_neg e, atKey_put_other (lit32_ne e), has_put_other (lit32_ne e)]
        exact hat x hx

/-- A number struck from a map that holds it. -/
theorem ApIs.del {w : World} {b : Nat} {mo : Option Nat} {ap : Int → Bool} {s N : Nat} (h : ApIs w b mo ap s N) {t : Int} (ht : R32 t) (hap : ap t = true) :
    ∃ m w', mo = some m ∧ b < m ∧ m < w.heap.size ∧ 0 < s ∧ (Builtin.delete_ #[26, 25] 0 #[.map (some m), .int .u32 t]).run Try.prog w = .ok (.tuple #[]) w' ∧ ApIs w' b mo (delAp ap t) (s - 1) N ∧ w.mapTurned w' m := by
  rcases h with ⟨_, h⟩ | ⟨m, D, rfl, hm, hown, hs, hat⟩
  · rw [h t] at hap; cases hap
  · obtain ⟨w', hrun, hown', hturn⟩ := hown.drop Try.law25 Try.underlying26 (key32 ht) 0
    have hsz := size_del (k := .int .u32 t) (hown.tidy Try.law25)
    rw [(hat t ht).2, hap] at hsz
    simp only [if_true] at hsz
    refine ⟨m, w', rfl, hm, hown.lt, by omega, hrun, .inr ⟨m, _, rfl, hm, hown', by omega, ?_⟩, hturn⟩
    intro x hx
    unfold delAp
    by_cases e : x = t
    · subst e
      rw [if_pos rfl, atKey_del_same, has_del_same]
      exact ⟨rfl, rfl⟩
    · rw [if_neg e, atKey_del_other (lit32_ne e), has_del_other (lit32_ne e)]
      exact hat x hx

theorem ApIs.made (w : World) (b N : Nat) (hb : b < w.heap.size) : ApIs (w.alloc (.map #[] 0)) b (some w.heap.size) (fun _ => false) 0 N :=
  .inr ⟨w.heap.size, .map [], rfl, hb, (World.ownsMap_made w Try.prog 25 _).mono (Nat.zero_le _), Nat.le_refl _, fun x _ => ⟨rfl, rfl⟩⟩

/-! ### the log's own block -/
def logCells (st : Bool) (f l : Int) (mo : Option Nat) : Obj := .cells #[.bool st, .int .u32 f, .int .u32 l, .map mo] 28 (0, 0)

theorem heap_setCell_same {w : World} {b i : Nat} {cs : Array Value} {e : TypeId} {fz : Nat × Nat} (h : w.heap[b]? = some (.cells cs e fz)) (u : Value) : (w.setCell ⟨b, i, none⟩ u).heap[b]? = some (.cells (cs.setIfInBounds i u) e fz) := by
  have hlt : b < w.heap.size := (Array.getElem?_eq_some_iff.1 h).1
  have h' : w.heap[b] = .cells cs e fz := by simpa [Array.getElem?_eq_getElem hlt] using h
  show (w.heap.modify b _)[b]? = _
  rw [Array.getElem?_eq_getElem (by simpa using hlt), Array.getElem_modify_self, h']
  rfl

/-- The log in memory has seen the numbers S (and was called at most N times). -/
def Log (w : World) (b N : Nat) (S : List Int) : Prop :=
  (w.heap[b]? = some (logCells false 0 0 none) ∧ S = []) ∨
  ∃ f l mo ap s, w.heap[b]? = some (logCells true f l mo) ∧ R32 f ∧ R32 l ∧ ApIs w b mo ap s N ∧ (l - f) % 4294967296 + 1 + s ≤ N ∧ ∀ x, R32 x → (x ∈ S ↔ logHas f l ap x = true)

end Go.Proofs.Qxb6002696a
