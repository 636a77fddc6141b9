/-
  THE WALK of FnIntIDIsCanonicalDecimalAndInjective.
-/
import Derived.Test.Qxb6618396aDoorParse
namespace Go.Proofs.Qxb6618396aDoor
open Go.RowKit

set_option maxHeartbeats 400000 in
theorem inj_any (a b : Int) (a0 : -9223372036854775808 ≤ a) (a1 : a ≤ 9223372036854775807) (b0 : -9223372036854775808 ≤ b) (b1 : b ≤ 9223372036854775807) (w : World) (htab : Lib.TabIs Tryd.prog w tabName .u64 Lib.pow10Tab) :
    Calls Tryd.prog 3 #[.int .i64 a, .int .i64 b] w fun e w' => e = .returned (.bool true) ∧ Below w.heap.size w w' := by
  go_enter Tryd.func3, Tryd.ntmps3
  go_wp2_with fail
  refine (intID_any a a0 a1 _ htab).mono ?_
  rintro e w1 ⟨rfl, hb1⟩
  have ht1 := Go.Joins.tab_stays gTab htab hb1 (Nat.le_refl _)
  go_wp2_with fail
  refine (intID_any b b0 b1 _ (Lib.tabIs_alloc ht1 _)).mono ?_
  rintro e w2 ⟨rfl, hb2⟩
  have hA0 : w2.cell? ⟨w1.heap.size, 0, none⟩ = some (.int .u8 2) := by
    rw [hb2.cell (by simp)]; simp [go_sem]
  have hA1 : w2.cell? ⟨w1.heap.size, 1, none⟩ = some (.string (txt a)) := by
    rw [hb2.cell (by simp)]; simp [go_sem]
  have hz : w1.heap.size < w2.heap.size := by have := hb2.size; simp at this; omega
  have hz1 : w1.heap.size < w2.heap.size + 1 := by omega
  have hz2 : w1.heap.size < w2.heap.size + 1 + 1 := by omega
  have hz3 : w1.heap.size < w2.heap.size + 1 + 1 + 1 := by omega
  have hz4 : w1.heap.size < w2.heap.size + 1 + 1 + 1 + 1 := by omega
  have E : ((txt a).toList == (txt b).toList) = (a == b) := by
    by_cases e : a = b
    · subst e; simp
    · have h1 : (a == b) = false := by simpa using e
      have h2 : ¬ (txt a).toList = (txt b).toList := by
        intro h
        rw [Lib.toList_data, Lib.toList_data, txt_list, txt_list] at h
        exact e (itoa_inj a b h)
      rw [h1]; simpa using h2
  clear ht1 htab
  go_wp2_with (first | (go_at_call 7; refine (parse_any _ (by assumption) (by assumption) _).mono ?_; rintro e w' ⟨rfl, rfl⟩) | go_in)
  all_goals
    have hB : Below w.heap.size w w2 := (hb1.alloc hb1.size _).trans (hb2.mono (by have := hb1.size; simp; omega))
    have hsz := hB.size
    have hC : ∀ o1 o2 o3 o4 o5, Below w.heap.size w (((((w2.alloc o1).alloc o2).alloc o3).alloc o4).alloc o5) := fun o1 o2 o3 o4 o5 =>
      ((((hB.alloc (by simpa using hsz) _).alloc (by simp; omega) _).alloc (by simp; omega) _).alloc (by simp; omega) _).alloc (by simp; omega) _
    go_ret
  · exact ⟨rfl, hC _ _ _ _ _⟩
  · have hf : (a == b) = false := by simpa using ‹¬ a = b›
    refine ⟨?_, hC _ _ _ _ _⟩
    show Ending.returned (.bool (!(a == b))) = _
    rw [hf]; rfl

end Go.Proofs.Qxb6618396aDoor
