/-
  FROM THE ROWS' LIST OF LAID VARIABLES TO THE TABLE OF POWERS OF TEN; and that the door's own heap meets the list.
-/
import Derived.Test.Qxb6618396aDoorWalks
import Derived.ProofKit
import Derived.LaidMore
import Derived.Stop.Joined
namespace Go.Proofs.Qxb6618396aDoor
open Go.ChangeShapes Go.WideShapes Go.ChangeAt Go.RowKit

theorem own : ownKnob Tryd.prog.godebug = none := by kernel_rfl

/-- The three listed variables (both rows list the same). -/
def laid3 : List (String × DataW Unit) := Rows.fnIntIDNegationAddsMinusSignRow.laid

theorem tabD : (Rows.laid_internal_strconv_uint64pow10 : DataW Unit) = Lib.tabData .u64 Lib.pow10Tab := by kernel_rfl

theorem tab_of_laid {W : World} (h : laidMetH Tryd.prog laid3 W) : Lib.TabIs Tryd.prog W tabName .u64 Lib.pow10Tab := by
  rw [MakeChecks.laidMetH_plain _ _ _ (by kernel_rfl)] at h
  obtain ⟨ps, ⟨_, _, _, _, _, _, _, _, _, _, ⟨_, _, _, _, _, _, _, _, _, _, ⟨g', t', cs, fuel, p, q, hg', ht', hvar, hd, _, _⟩, _⟩, _⟩, _⟩ := h
  have hg : Tryd.prog.globalNamed tabName = some 0 := by kernel_rfl
  have hty : (Tryd.prog.globals[0]?).map (·.type) = some 43 := by kernel_rfl
  obtain rfl := Option.some.inj (hg.symm.trans hg')
  obtain rfl := Option.some.inj (hty.symm.trans ht')
  rw [tabD] at hd
  have e := Lib.cells_of_tab Tryd.underlying43 Tryd.underlying33 (by kernel_rfl) (by kernel_rfl) hd
  unfold Lib.TabIs
  rw [← e]
  exact hvar

theorem door_met (os : Os) (args : Array Value) : laidMetH Tryd.prog laid3 ((World.doorLaid Tryd.prog 400 os).forCall (fun _ _ => 0) ⟨#[], args, []⟩).memory :=
  laidMetH_of_parts3 (fuel := 8) (laidMet_of_run' 8 (by kernel_rfl) (by kernel_rfl)) (by kernel_rfl) (by kernel_rfl)

end Go.Proofs.Qxb6618396aDoor
