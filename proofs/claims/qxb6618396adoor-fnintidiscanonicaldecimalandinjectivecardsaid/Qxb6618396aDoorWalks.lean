/-
  THE WALKS of IntID, ZZIDKind, ZZIDValue.
-/
import Derived.Test.Qxb6618396aDoorRows
import Derived.Test.Qxb6618396aDoorShelf
import Derived.Test.Qxb6618396aDoorPlain
import Derived.Lib.AppendIntMem
import Derived.WalkKit
import Derived.WalkSpells
import Derived.WalkLawsBesides
import Derived.OpenShut
namespace Go.Proofs.Qxb6618396aDoor
open Go.RowKit

/-- The text of n. -/
def txt (n : Int) : ByteArray := ⟨(Lib.itoa n).toArray⟩

set_option maxHeartbeats 400000 in
theorem kind_any (k : Int) (s : ByteArray) (w : World) :
    Calls Tryd.prog 6 #[.agg #[.int .u8 k, .string s]] w fun e w' => e = .returned (.int .u8 k) ∧ Below w.heap.size w w' := by
  go_enter Tryd.func6, Tryd.ntmps6
  go_wp2
  go_ret
  exact ⟨rfl, (Below.refl _ _).alloc (Nat.le_refl _) _⟩

set_option maxHeartbeats 400000 in
theorem value_any (k : Int) (s : ByteArray) (w : World) :
    Calls Tryd.prog 8 #[.agg #[.int .u8 k, .string s]] w fun e w' => e = .returned (.string s) ∧ Below w.heap.size w w' := by
  go_enter Tryd.func8, Tryd.ntmps8
  go_wp2
  go_ret
  exact ⟨rfl, (Below.refl _ _).alloc (Nat.le_refl _) _⟩

set_option maxHeartbeats 400000 in
theorem intID_any (n : Int) (h0 : -9223372036854775808 ≤ n) (h1 : n ≤ 9223372036854775807) (w : World) (htab : Lib.TabIs Tryd.prog w tabName .u64 Lib.pow10Tab) :
    Calls Tryd.prog 5 #[.int .i64 n] w fun e w' => e = .returned (.agg #[.int .u8 2, .string (txt n)]) ∧ Below w.heap.size w w' := by
  go_enter Tryd.func5, Tryd.ntmps5
  go_wp2_with fail
  refine (fmtInt n h0 h1 _ (Lib.tabIs_alloc htab _)).mono ?_
  rintro e w1 ⟨rfl, k, os, hw1⟩
  have hblk : w1.heap[w.heap.size]? = some (.cells #[.int .u8 0, .string ⟨#[]⟩] 24 (0, 0)) := by
    rw [hw1, Lib.heap_grow_old _ _ _ _ (by simp)]; exact heap_alloc_new w _
  have hbel : Below w.heap.size w w1 := by
    rw [hw1]; exact ((Below.refl _ _).alloc (Nat.le_refl _) _).trans (Lib.below_grow _ _ (by simp) _ _)
  clear hw1
  have hc0 := cell_of_row w1 w.heap.size 0 _ _ _ hblk
  have hc1 := cell_of_row w1 w.heap.size 1 _ _ _ hblk
  have hf0 := frozen_of_row w1 w.heap.size 0 _ _ hblk
  have hf1 := frozen_of_row w1 w.heap.size 1 _ _ hblk
  simp only [List.getElem?_toArray, List.getElem?_cons_zero, List.getElem?_cons_succ] at hc0 hc1
  have HT : Hid (Below w.heap.size w w1) := hbel
  clear hblk hbel htab
  go_wp2

  refine bodyPost_ret (v := .agg #[.int .u8 2, .string (txt n)]) (by simp [results, Tryd.results5, go_sem, txt, hc0, hc1]) rfl ⟨rfl, ?_⟩
  exact (HT.out.setCell (Nat.le_refl _) _).setCell (Nat.le_refl _) _

end Go.Proofs.Qxb6618396aDoor
