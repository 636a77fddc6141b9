/-
  No cell of these rows narrows 'for every input' (looked for: loops, veiled, ifaces, maps, wideKeys, modest, calm, conditions, laid).
  DERIVED. THE GIVEN ROWS OF THIS SEAT. 1 by the template 'for every input the law returns true; each argument reads behind the call as it read before'; 0 by the template 'total and deterministic' (their statements: Qxb6618386aTotals.lean).
  GIVEN WITH THE SEED: the statements are not yours to turn. If you find one false, say at which input.
  Laid BY PROGRAM, IN A SANDBOX (cutbox-rows.mjs): the forced cells as the released guide's own fill.sh prints them over the translation d7b6c47086ff093b… (all of the seat's roots in one cut). By AI agents, Wed Nov 11 2026. No macro, syntax, notation, axiom, sorry.
-/
import Derived.Test.Qxb6618386aChecked
import GoSem.Claim
import GoSem.ClaimJoined
import GoSem.ClaimMapViews
import Derived.JoinedTies
import Derived.KernelRfl
namespace Go.Proofs.Qxb6618386a
/- THE CELL 'sum', in the pinned program and in every row, IS THE sha256 OF THE DUMP (.gsa) THAT Qxb6618386aProg.lean LOADS. Nothing in Lean hashes anything: it is a label: what it is worth is what the hold of that sum in a sandbox is worth. -/
noncomputable def Try.pinned : Pinned := { name := "qxb6618386a", sum := "d7b6c47086ff093b877053619bed2ffd7976251d2add3d14e5217828c53c930f", checked := Try.checked }
namespace Rows
def none {H : Type} : Left H := { results := [], args := [] }

/-- 'zzlaws_internal_randgraph_b1.FnTopAgreesAlongPath': WHATEVER THE INPUT: true; the input reads as it did. -/
def fnTopAgreesAlongPathSpec : ChangeSpec := { name := "fnTopAgreesAlongPath", fn := fun _ => fun
  | [d1, d2, d3, d4] => { results := [.lit (.bool true)], args := [d1, d2, d3, d4] }
  | _ => none }
def fnTopAgreesAlongPathRow : OpenClaim := { program := "qxb6618386a", sum := "d7b6c47086ff093b877053619bed2ffd7976251d2add3d14e5217828c53c930f", func := "example.com/parley/parley/zzlaws_internal_randgraph_b1.FnTopAgreesAlongPath", spec := "fnTopAgreesAlongPath", apart := false }
def FnTopAgreesAlongPathSaid : Prop := fnTopAgreesAlongPathRow.holds Try.pinned (OpenSpec.ofChange fnTopAgreesAlongPathSpec)

/-- ITS FALSE NEIGHBOUR: 'it returns false'. Refute it at one input. -/
def fnTopAgreesAlongPathWrong : ChangeSpec := { name := "fnTopAgreesAlongPath", fn := fun _ => fun
  | [d1, d2, d3, d4] => { results := [.lit (.bool false)], args := [d1, d2, d3, d4] }
  | _ => none }
def FnTopAgreesAlongPathWrongFalsely : Prop := fnTopAgreesAlongPathRow.holds Try.pinned (OpenSpec.ofChange fnTopAgreesAlongPathWrong)

end Rows
end Go.Proofs.Qxb6618386a
