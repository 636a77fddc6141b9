/-
  No cell of these rows narrows 'for every input' (looked for: loops, veiled, ifaces, maps, wideKeys, modest, calm, conditions, laid).
  DERIVED. THE GIVEN ROWS OF THIS SEAT. 2 by the template 'for every input the law returns true; each argument reads behind the call as it read before'; 0 by the template 'total and deterministic' (their statements: Qxb6618451aTotals.lean).
  GIVEN WITH THE SEED: the statements are not yours to turn. If you find one false, say at which input.
  Laid BY PROGRAM, IN A SANDBOX (cutbox-rows.mjs): the forced cells as the released guide's own fill.sh prints them over the translation edb4a064bc7eaa22… (all of the seat's roots in one cut). By AI agents, Wed Nov 11 2026. No macro, syntax, notation, axiom, sorry.
-/
import Derived.Test.Qxb6618451aChecked
import GoSem.Claim
import GoSem.ClaimJoined
import GoSem.ClaimMapViews
import Derived.JoinedTies
import Derived.KernelRfl
namespace Go.Proofs.Qxb6618451a
/- THE CELL 'sum', in the pinned program and in every row, IS THE sha256 OF THE DUMP (.gsa) THAT Qxb6618451aProg.lean LOADS. Nothing in Lean hashes anything: it is a label: what it is worth is what the hold of that sum in a sandbox is worth. -/
noncomputable def Try.pinned : Pinned := { name := "qxb6618451a", sum := "edb4a064bc7eaa22e531a0e5a7765899bee92890aba79cb459fdd934acc0261b", checked := Try.checked }
namespace Rows
def none {H : Type} : Left H := { results := [], args := [] }

/-- 'zzlaws_root_b1.FnTryCutMatchesWindowModel': WHATEVER THE INPUT: true; the input reads as it did. -/
def fnTryCutMatchesWindowModelSpec : ChangeSpec := { name := "fnTryCutMatchesWindowModel", fn := fun _ => fun
  | [d1, d2, d3, d4, d5, d6, d7, d8, d9] => { results := [.lit (.bool true)], args := [d1, d2, d3, d4, d5, d6, d7, d8, d9] }
  | _ => none }
def fnTryCutMatchesWindowModelRow : OpenClaim := { program := "qxb6618451a", sum := "edb4a064bc7eaa22e531a0e5a7765899bee92890aba79cb459fdd934acc0261b", func := "example.com/cutpoint/cutpoint/zzlaws_root_b1.FnTryCutMatchesWindowModel", spec := "fnTryCutMatchesWindowModel", apart := false }
def FnTryCutMatchesWindowModelSaid : Prop := fnTryCutMatchesWindowModelRow.holds Try.pinned (OpenSpec.ofChange fnTryCutMatchesWindowModelSpec)

/-- ITS FALSE NEIGHBOUR: 'it returns false'. Refute it at one input. -/
def fnTryCutMatchesWindowModelWrong : ChangeSpec := { name := "fnTryCutMatchesWindowModel", fn := fun _ => fun
  | [d1, d2, d3, d4, d5, d6, d7, d8, d9] => { results := [.lit (.bool false)], args := [d1, d2, d3, d4, d5, d6, d7, d8, d9] }
  | _ => none }
def FnTryCutMatchesWindowModelWrongFalsely : Prop := fnTryCutMatchesWindowModelRow.holds Try.pinned (OpenSpec.ofChange fnTryCutMatchesWindowModelWrong)

/-- 'zzlaws_root_b1.FnTryCutResumesAtAnySplit': WHATEVER THE INPUT: true; the input reads as it did. -/
def fnTryCutResumesAtAnySplitSpec : ChangeSpec := { name := "fnTryCutResumesAtAnySplit", fn := fun _ => fun
  | [d1, d2, d3, d4, d5, d6, d7, d8, d9, d10] => { results := [.lit (.bool true)], args := [d1, d2, d3, d4, d5, d6, d7, d8, d9, d10] }
  | _ => none }
def fnTryCutResumesAtAnySplitRow : OpenClaim := { program := "qxb6618451a", sum := "edb4a064bc7eaa22e531a0e5a7765899bee92890aba79cb459fdd934acc0261b", func := "example.com/cutpoint/cutpoint/zzlaws_root_b1.FnTryCutResumesAtAnySplit", spec := "fnTryCutResumesAtAnySplit", apart := false }
def FnTryCutResumesAtAnySplitSaid : Prop := fnTryCutResumesAtAnySplitRow.holds Try.pinned (OpenSpec.ofChange fnTryCutResumesAtAnySplitSpec)

/-- ITS FALSE NEIGHBOUR: 'it returns false'. Refute it at one input. -/
def fnTryCutResumesAtAnySplitWrong : ChangeSpec := { name := "fnTryCutResumesAtAnySplit", fn := fun _ => fun
  | [d1, d2, d3, d4, d5, d6, d7, d8, d9, d10] => { results := [.lit (.bool false)], args := [d1, d2, d3, d4, d5, d6, d7, d8, d9, d10] }
  | _ => none }
def FnTryCutResumesAtAnySplitWrongFalsely : Prop := fnTryCutResumesAtAnySplitRow.holds Try.pinned (OpenSpec.ofChange fnTryCutResumesAtAnySplitWrong)

end Rows
end Go.Proofs.Qxb6618451a
