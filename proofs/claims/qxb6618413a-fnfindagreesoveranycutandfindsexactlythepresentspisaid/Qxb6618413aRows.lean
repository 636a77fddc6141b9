/-
  No cell of these rows narrows 'for every input' (looked for: loops, veiled, ifaces, maps, wideKeys, modest, calm, conditions, laid).
  DERIVED. THE GIVEN ROWS OF THIS SEAT. 1 by the template 'for every input the law returns true; each argument reads behind the call as it read before'; 0 by the template 'total and deterministic' (their statements: Qxb6618413aTotals.lean).
  GIVEN WITH THE SEED: the statements are not yours to turn. If you find one false, say at which input.
  Laid BY PROGRAM, IN A SANDBOX (cutbox-rows.mjs): the forced cells as the released guide's own fill.sh prints them over the translation b21f5dba3c9b60a6… (all of the seat's roots in one cut). By AI agents, Wed Nov 11 2026. No macro, syntax, notation, axiom, sorry.
-/
import Derived.Test.Qxb6618413aChecked
import GoSem.Claim
import GoSem.ClaimJoined
import GoSem.ClaimMapViews
import Derived.JoinedTies
import Derived.KernelRfl
namespace Go.Proofs.Qxb6618413a
/- THE CELL 'sum', in the pinned program and in every row, IS THE sha256 OF THE DUMP (.gsa) THAT Qxb6618413aProg.lean LOADS. Nothing in Lean hashes anything: it is a label: what it is worth is what the hold of that sum in a sandbox is worth. -/
noncomputable def Try.pinned : Pinned := { name := "qxb6618413a", sum := "b21f5dba3c9b60a686f2c688083faff7d351a751eec367d55b50714298c521be", checked := Try.checked }
namespace Rows
def none {H : Type} : Left H := { results := [], args := [] }

/-- 'zzlaws_pkg_gdoi_b1.FnFindAgreesOverAnyCutAndFindsExactlyThePresentSPI': WHATEVER THE INPUT: true; the input reads as it did. -/
def fnFindAgreesOverAnyCutAndFindsExactlyThePresentSPISpec : ChangeSpec := { name := "fnFindAgreesOverAnyCutAndFindsExactlyThePresentSPI", fn := fun _ => fun
  | [d1, d2, d3] => { results := [.lit (.bool true)], args := [d1, d2, d3] }
  | _ => none }
def fnFindAgreesOverAnyCutAndFindsExactlyThePresentSPIRow : OpenClaim := { program := "qxb6618413a", sum := "b21f5dba3c9b60a686f2c688083faff7d351a751eec367d55b50714298c521be", func := "example.com/keyvolt/keyvolt/zzlaws_pkg_gdoi_b1.FnFindAgreesOverAnyCutAndFindsExactlyThePresentSPI", spec := "fnFindAgreesOverAnyCutAndFindsExactlyThePresentSPI", apart := false }
def FnFindAgreesOverAnyCutAndFindsExactlyThePresentSPISaid : Prop := fnFindAgreesOverAnyCutAndFindsExactlyThePresentSPIRow.holds Try.pinned (OpenSpec.ofChange fnFindAgreesOverAnyCutAndFindsExactlyThePresentSPISpec)

/-- ITS FALSE NEIGHBOUR: 'it returns false'. Refute it at one input. -/
def fnFindAgreesOverAnyCutAndFindsExactlyThePresentSPIWrong : ChangeSpec := { name := "fnFindAgreesOverAnyCutAndFindsExactlyThePresentSPI", fn := fun _ => fun
  | [d1, d2, d3] => { results := [.lit (.bool false)], args := [d1, d2, d3] }
  | _ => none }
def FnFindAgreesOverAnyCutAndFindsExactlyThePresentSPIWrongFalsely : Prop := fnFindAgreesOverAnyCutAndFindsExactlyThePresentSPIRow.holds Try.pinned (OpenSpec.ofChange fnFindAgreesOverAnyCutAndFindsExactlyThePresentSPIWrong)

end Rows
end Go.Proofs.Qxb6618413a
