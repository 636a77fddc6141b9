/-
  AN ARRAY OF WORDS HANDED IN BY VALUE, OPENED.
-/
import Derived.Test.Qxb6618451aRows
import Derived.WalkKit
import Derived.ProofKit
import Derived.OpenShut
namespace Go.Proofs.Qxb6618451a
open Go.ChangeShapes Go.WideShapes Go.ChangeAt Go.RowKit

theorem okWide_array {P : Program} {w : World} {r : Reach} {base : Nat} {t : TypeId} {v : Value} {n : Nat} {e : TypeId} (ht : P.underlying t = some (.array n e)) (h : Value.okWide P w r base t v) : ∃ cs, v = .agg cs ∧ cs.size = P.cellsOf t := by
  cases v <;> simp [Value.okWide, ht] at h
  exact ⟨_, rfl, h.1⟩

/-- The cells of an array of n words. -/
theorem open_words {H : Type} {enc : TypeId × Value → H} {P : Program} {w : World} {base b0 : Nat} {spare : Nat → Bool} {held : Bool} {r : Reach} {t e : TypeId} {n : Nat} {v : Value} {d : DataW H} {p : List MemPlace}
    (ht : P.underlying t = some (.array n e)) (he : P.underlying e = some (.int .u64)) (hce : P.cellsOf e = 1) (hct : P.cellsOf t = n) (hv : Value.okWide P w r b0 t v) (h : DataW.Trod enc P w base spare held t v d p) :
    ∃ (G : Array Value) (g : Nat → Int), v = .agg G ∧ G.size = n ∧ ∀ i, i < n → G[i]? = some (.int .u64 (g i)) ∧ (Lit.int .u64 (g i)).wf = true := by
  obtain ⟨G, rfl, hs⟩ := okWide_array ht hv
  obtain ⟨fuel, hf⟩ := h
  obtain ⟨xs, m, _, _, hl, hx, hall⟩ := DataW.trod_array ht hf
  have key : ∀ i, ∃ z, i < n → G[i]? = some (.int .u64 z) ∧ (Lit.int .u64 z).wf = true := by
    intro i
    by_cases hi : i < n
    · have h1 := hall i hi
      rw [List.getElem?_eq_getElem (by omega)] at h1
      obtain ⟨z, h2, _, h3⟩ := DataW.trod_int he h1
      refine ⟨z, fun _ => ⟨?_, h3⟩⟩
      have := congrArg (·[0]?) h2
      simpa [hce, Value.cells, List.getElem?_take, List.getElem?_drop] using this
    · exact ⟨0, fun h => absurd h hi⟩
  exact ⟨G, fun i => Classical.choose (key i), rfl, by omega, fun i hi => Classical.choose_spec (key i) hi⟩

theorem pair_of {M : Array Value} {m : Nat → Int} (hs : M.size = 2) (h : ∀ i, i < 2 → M[i]? = some (.int .u64 (m i)) ∧ (Lit.int .u64 (m i)).wf = true) : M = #[.int .u64 (m 0), .int .u64 (m 1)] := by
  apply Array.ext_getElem?
  intro i
  match i with
  | 0 => rw [(h 0 (by omega)).1]; rfl
  | 1 => rw [(h 1 (by omega)).1]; rfl
  | i + 2 => rw [Array.getElem?_eq_none (by omega), Array.getElem?_eq_none (by simp)]

/-- What is known of a slice of integers that came in: nil, or a row of cells. -/
def IsRow (k : IntKind) (w : World) (a : Option Addr) (len cap : Nat) (zs : List Int) : Prop :=
  (a = none ∧ len = 0 ∧ cap = 0 ∧ zs = []) ∨
  ∃ x, a = some x ∧ len ≤ cap ∧ cap ≤ maxLen ∧ zs.length = cap ∧ (∀ i, i < zs.length → w.cell? (x.add i) = some (.int k (zs.getD i 0))) ∧ ∀ n ∈ zs, (Lit.int k n).wf = true

theorem laidOut : laidOutB Try.prog = true := by kernel_rfl
theorem own : ownKnob Try.prog.godebug = none := by kernel_rfl

end Go.Proofs.Qxb6618451a
