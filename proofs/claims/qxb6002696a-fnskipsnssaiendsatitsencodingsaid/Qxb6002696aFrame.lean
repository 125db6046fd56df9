/- The frame's words: what a slice that came in is told as, and as plain lists. -/
import Derived.Test.Qxb6002696aLawKit
import Derived.ProofKit
import Derived.OpenShut
import Derived.ShutString
import Derived.ChangeOld
import Derived.Deep.Grids
namespace Go.Proofs.Qxb6002696a
open Go.RowKit
set_option linter.unusedVariables false

theorem Try.own : ownKnob Try.prog.godebug = none := by kernel_rfl
theorem Try.laidOut : laidOutB Try.prog = true := by kernel_rfl

/-- A slice of integers that came in (the given shells' own word). -/
def IsRow (k : IntKind) (w : World) (a : Option Addr) (len cap : Nat) (zs : List Int) : Prop :=
  (a = none ∧ len = 0 ∧ cap = 0 ∧ zs = []) ∨
  ∃ x, a = some x ∧ len ≤ cap ∧ cap ≤ maxLen ∧ zs.length = cap ∧ (∀ i, i < zs.length → w.cell? (x.add i) = some (.int k (zs.getD i 0))) ∧ ∀ n ∈ zs, (Lit.int k n).wf = true
/-- A slice of bools that came in. -/
def IsBools (w : World) (a : Option Addr) (len cap : Nat) (B : Nat → Bool) : Prop :=
  (a = none ∧ len = 0 ∧ cap = 0) ∨
  ∃ x, a = some x ∧ len ≤ cap ∧ cap ≤ maxLen ∧ ∀ i, i < cap → w.cell? (x.add i) = some (.bool (B i))

theorem wf_u8 {z : Int} (h : (Lit.int .u8 z).wf = true) : 0 ≤ z ∧ z < 256 := by
  have h1 : IntKind.min .u8 = 0 := by decide
  have h2 : IntKind.max .u8 = 255 := by decide
  simp only [Lit.wf, h1, h2, Bool.and_eq_true, decide_eq_true_eq] at h
  omega
theorem wf_u16 {z : Int} (h : (Lit.int .u16 z).wf = true) : 0 ≤ z ∧ z < 65536 := by
  have h1 : IntKind.min .u16 = 0 := by decide
  have h2 : IntKind.max .u16 = 65535 := by decide
  simp only [Lit.wf, h1, h2, Bool.and_eq_true, decide_eq_true_eq] at h
  omega
theorem wf_u32 {z : Int} (h : (Lit.int .u32 z).wf = true) : 0 ≤ z ∧ z < 4294967296 := by
  have h1 : IntKind.min .u32 = 0 := by decide
  have h2 : IntKind.max .u32 = 4294967295 := by decide
  simp only [Lit.wf, h1, h2, Bool.and_eq_true, decide_eq_true_eq] at h
  omega

theorem came_ints {k : IntKind} {M : Int} {w : World} {a : Option Addr} {len cap : Nat} {zs : List Int} (hM : ∀ z, (Lit.int k z).wf = true → 0 ≤ z ∧ z < M) (h : IsRow k w a len cap zs) :
    ∃ ns : List Nat, Came w a len (ns.map fun n : Nat => Value.int k (n : Int)) ∧ (∀ n ∈ ns, (n : Int) < M) ∧ len ≤ 9223372036854775807 := by
  rcases h with ⟨rfl, rfl, rfl, rfl⟩ | ⟨x, rfl, hl, hm, hz, hcell, hwf⟩
  · exact ⟨[], ⟨rfl, .inl ⟨rfl, rfl⟩⟩, by simp, by omega⟩
  · refine ⟨(zs.take len).map Int.toNat, ⟨by simp; omega, .inr ⟨x, rfl, fun j u hj => ?_⟩⟩, fun n hn => ?_, by unfold maxLen at hm; omega⟩
    · obtain ⟨hj1, hj2⟩ := List.getElem?_eq_some_iff.1 hj
      simp at hj1 hj2
      have hjz : j < zs.length := by omega
      have := hM zs[j] (hwf _ (List.getElem_mem hjz))
      rw [hcell j hjz, ← hj2, List.getD, List.getElem?_eq_getElem hjz, Option.getD_some]
      congr 2
      omega
    · obtain ⟨z, hz1, rfl⟩ := List.mem_map.1 hn
      have := hM z (hwf z (List.mem_of_mem_take hz1))
      omega
theorem came_bools {w : World} {a : Option Addr} {len cap : Nat} {B : Nat → Bool} (h : IsBools w a len cap B) : ∃ bs : List Bool, Came w a len (bs.map Value.bool) ∧ len ≤ 9223372036854775807 := by
  rcases h with ⟨rfl, rfl, rfl⟩ | ⟨x, rfl, hl, hm, hcell⟩
  · exact ⟨[], ⟨rfl, .inl ⟨rfl, rfl⟩⟩, by omega⟩
  · refine ⟨(List.range len).map B, ⟨by simp, .inr ⟨x, rfl, fun j u hj => ?_⟩⟩, by unfold maxLen at hm; omega⟩
    obtain ⟨hj1, hj2⟩ := List.getElem?_eq_some_iff.1 hj
    simp at hj1 hj2
    rw [hcell j (by omega), ← hj2]
end Go.Proofs.Qxb6002696a
