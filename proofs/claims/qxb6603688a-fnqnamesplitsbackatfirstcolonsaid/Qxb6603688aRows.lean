/-
  No cell of these rows narrows 'for every input' (looked for: loops, veiled, ifaces, maps, wideKeys, modest, calm, conditions, laid).
  DERIVED. THE GIVEN ROWS OF THIS SEAT. 2 by the template 'for every input the law returns true; each argument reads behind the call as it read before'; 0 by the template 'total and deterministic' (their statements: Qxb6603688aTotals.lean).
  GIVEN WITH THE SEED: the statements are not yours to turn. If you find one false, say at which input.
  Laid BY PROGRAM, IN A SANDBOX (cutbox-rows.mjs): the forced cells as the released guide's own fill.sh prints them over the translation 1ba46e88a6330fda… (all of the seat's roots in one cut). By AI agents, Wed Nov 11 2026. No macro, syntax, notation, axiom, sorry.
-/
import Derived.Test.Qxb6603688aChecked
import GoSem.Claim
import GoSem.ClaimJoined
import GoSem.ClaimMapViews
import Derived.JoinedTies
import Derived.KernelRfl
namespace Go.Proofs.Qxb6603688a
/- THE CELL 'sum', in the pinned program and in every row, IS THE sha256 OF THE DUMP (.gsa) THAT Qxb6603688aProg.lean LOADS. Nothing in Lean hashes anything: it is a label: what it is worth is what the hold of that sum in a sandbox is worth. -/
noncomputable def Try.pinned : Pinned := { name := "qxb6603688a", sum := "1ba46e88a6330fda1192b635307de144e8ce94bf4cbec15e35bf549c22cd670a", checked := Try.checked }
namespace Rows
def none {H : Type} : Left H := { results := [], args := [] }

/-- 'zzlaws_epp_b1.FnIsNameRuneMatchesXMLNameTables': WHATEVER THE INPUT: true; the input reads as it did. -/
def fnIsNameRuneMatchesXMLNameTablesSpec : ChangeSpec := { name := "fnIsNameRuneMatchesXMLNameTables", fn := fun _ => fun
  | [d1, d2] => { results := [.lit (.bool true)], args := [d1, d2] }
  | _ => none }
def fnIsNameRuneMatchesXMLNameTablesRow : OpenClaim := { program := "qxb6603688a", sum := "1ba46e88a6330fda1192b635307de144e8ce94bf4cbec15e35bf549c22cd670a", func := "example.com/downtide/downtide/zzlaws_epp_b1.FnIsNameRuneMatchesXMLNameTables", spec := "fnIsNameRuneMatchesXMLNameTables", apart := false }
def FnIsNameRuneMatchesXMLNameTablesSaid : Prop := fnIsNameRuneMatchesXMLNameTablesRow.holds Try.pinned (OpenSpec.ofChange fnIsNameRuneMatchesXMLNameTablesSpec)

/-- ITS FALSE NEIGHBOUR: 'it returns false'. Refute it at one input. -/
def fnIsNameRuneMatchesXMLNameTablesWrong : ChangeSpec := { name := "fnIsNameRuneMatchesXMLNameTables", fn := fun _ => fun
  | [d1, d2] => { results := [.lit (.bool false)], args := [d1, d2] }
  | _ => none }
def FnIsNameRuneMatchesXMLNameTablesWrongFalsely : Prop := fnIsNameRuneMatchesXMLNameTablesRow.holds Try.pinned (OpenSpec.ofChange fnIsNameRuneMatchesXMLNameTablesWrong)

/-- 'zzlaws_epp_b1.FnQnameSplitsBackAtFirstColon': WHATEVER THE INPUT: true; the input reads as it did. -/
def fnQnameSplitsBackAtFirstColonSpec : ChangeSpec := { name := "fnQnameSplitsBackAtFirstColon", fn := fun _ => fun
  | [d1, d2, d3] => { results := [.lit (.bool true)], args := [d1, d2, d3] }
  | _ => none }
def fnQnameSplitsBackAtFirstColonRow : OpenClaim := { program := "qxb6603688a", sum := "1ba46e88a6330fda1192b635307de144e8ce94bf4cbec15e35bf549c22cd670a", func := "example.com/downtide/downtide/zzlaws_epp_b1.FnQnameSplitsBackAtFirstColon", spec := "fnQnameSplitsBackAtFirstColon", apart := false }
def FnQnameSplitsBackAtFirstColonSaid : Prop := fnQnameSplitsBackAtFirstColonRow.holds Try.pinned (OpenSpec.ofChange fnQnameSplitsBackAtFirstColonSpec)

/-- ITS FALSE NEIGHBOUR: 'it returns false'. Refute it at one input. -/
def fnQnameSplitsBackAtFirstColonWrong : ChangeSpec := { name := "fnQnameSplitsBackAtFirstColon", fn := fun _ => fun
  | [d1, d2, d3] => { results := [.lit (.bool false)], args := [d1, d2, d3] }
  | _ => none }
def FnQnameSplitsBackAtFirstColonWrongFalsely : Prop := fnQnameSplitsBackAtFirstColonRow.holds Try.pinned (OpenSpec.ofChange fnQnameSplitsBackAtFirstColonWrong)

end Rows
end Go.Proofs.Qxb6603688a
