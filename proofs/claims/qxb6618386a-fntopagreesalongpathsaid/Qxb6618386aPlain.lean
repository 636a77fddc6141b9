/-
  THE PLAIN LAW of FnTopAgreesAlongPath: chains of parents in a list of integers. No Go in sight.
-/
import Derived.WalkKit
import Derived.OpenShut
namespace Go.Proofs.Qxb6618386a
open Go.RowKit

/-- The parent of node x. -/
def par (Z : List Int) (x : Int) : Int := Z.getD x.toNat 0

/-- 'Up Z d x r': from x, d steps towards the parents, all in range, lead to r; r's parent is negative, and r is the first such node. -/
def Up (Z : List Int) : Nat → Int → Int → Prop
  | 0, x, r => x = r ∧ 0 ≤ x ∧ x < Z.length ∧ par Z x < 0
  | d + 1, x, r => 0 ≤ x ∧ x < Z.length ∧ 0 ≤ par Z x ∧ Up Z d (par Z x) r

theorem Up.range {Z : List Int} {d : Nat} {x r : Int} (h : Up Z d x r) : 0 ≤ x ∧ x < Z.length := by
  cases d with
  | zero => exact ⟨h.2.1, h.2.2.1⟩
  | succ d => exact ⟨h.1, h.2.1⟩

theorem Up.root {Z : List Int} {d : Nat} {x r : Int} (h : Up Z d x r) : 0 ≤ r ∧ r < Z.length ∧ par Z r < 0 := by
  induction d generalizing x with
  | zero => obtain ⟨rfl, h⟩ := h; exact h
  | succ d ih => exact ih h.2.2.2

theorem Up.zero {Z : List Int} {d : Nat} {x r : Int} (h : Up Z d x r) (hn : par Z x < 0) : d = 0 ∧ r = x := by
  cases d with
  | zero => exact ⟨rfl, h.1.symm⟩
  | succ d => have := h.2.2.1; omega

theorem Up.step {Z : List Int} {d : Nat} {x r : Int} (h : Up Z d x r) (hn : 0 ≤ par Z x) : ∃ d', d = d' + 1 ∧ Up Z d' (par Z x) r := by
  cases d with
  | zero => have := h.2.2.2; omega
  | succ d => exact ⟨d, rfl, h.2.2.2⟩

theorem par_bd {Z : List Int} (h : ∀ n ∈ Z, (Lit.int .i32 n).wf = true) (x : Int) : -2147483648 ≤ par Z x ∧ par Z x ≤ 2147483647 := by
  have := range_i32 h x.toNat
  simpa [par] using this

theorem wrap64_step (a b : Int) : wrap64 (wrap64 (a + b) + 1) = wrap64 (a + (b + 1)) := by
  unfold wrap64; omega

theorem wrap64_parts (a : Int) (d d' k : Nat) (hd : d ≤ 1000000) (h : d = d' + k) :
    wrap64 (wrap64 (wrap64 (a + d) - a) - wrap64 (wrap64 (a + d') - a)) = k := by
  subst h
  unfold wrap64; omega

theorem wrap64_one (a wu : Int) (k : Nat) (hd : k ≤ 1000000) (h : wu = wrap64 (a + k)) : wrap64 (wu - a) = k := by
  subst h; unfold wrap64; omega

theorem wrap64_two (a wu wv : Int) (k d m : Nat) (hd : k ≤ 1000000) (h : k = d + m) (hu : wu = wrap64 (a + k)) (hv : wv = wrap64 (a + d)) :
    wrap64 (wrap64 (wu - a) - wrap64 (wv - a)) = m := by
  subst hu; subst hv; exact wrap64_parts a k d m hd h

theorem wrap64_none (a : Int) (l0 : -9223372036854775808 ≤ a) (l1 : a ≤ 9223372036854775807) : a = wrap64 (a + (0 : Nat)) := by
  unfold wrap64; omega

end Go.Proofs.Qxb6618386a
