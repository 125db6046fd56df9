/- Plain words of this seat's walks: rows that came in, rows of the call's own, small laws. -/
import Derived.Test.Qxb6002696aRows
import Derived.WalkKit
import Derived.WalkLawsBesides
import Derived.WalkSpells
import Derived.Below
namespace Go.Proofs.Qxb6002696a
open Go.RowKit

/-- Old cells and marks read as before behind a call that only makes memory. -/
theorem bcell {W w1 : World} (hb : Below W.heap.size W w1) : (∀ b o, b < W.heap.size → w1.cell? ⟨b, o, none⟩ = W.cell? ⟨b, o, none⟩) ∧ (∀ b o, b < W.heap.size → w1.frozen? ⟨b, o, none⟩ = W.frozen? ⟨b, o, none⟩) :=
  ⟨fun b o h => hb.cell (p := ⟨b, o, none⟩) h, fun b o h => hb.frozen (p := ⟨b, o, none⟩) h⟩

/-- A slice that came in: nil and empty, or its elements' cells lie from its address on. -/
def Came (w : World) (a : Option Addr) (len : Nat) (xs : List Value) : Prop :=
  xs.length = len ∧ ((a = none ∧ len = 0) ∨ ∃ x, a = some x ∧ ∀ j u, xs[j]? = some u → w.cell? (x.add j) = some u)

theorem Try.info25 : (Try.prog.info? 25).map (fun i => (i.zero, i.size, i.bytes)) = some (some (.int .u32 0), 1, 4) := by kernel_rfl
theorem Try.info5 : (Try.prog.info? 5).map (fun i => (i.zero, i.size, i.bytes)) = some (some (.int .u8 0), 1, 1) := by kernel_rfl
theorem Try.info4 : (Try.prog.info? 4).map (fun i => (i.zero, i.size, i.bytes)) = some (some (.bool false), 1, 1) := by kernel_rfl
theorem Try.info36 : (Try.prog.info? 36).map (fun i => (i.zero, i.size, i.bytes)) = some (some (.int .u16 0), 1, 2) := by kernel_rfl

end Go.Proofs.Qxb6002696a
