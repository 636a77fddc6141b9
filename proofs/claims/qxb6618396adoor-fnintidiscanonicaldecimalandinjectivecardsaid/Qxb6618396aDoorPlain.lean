/-
  THE PLAIN LAWS of the decimal numeral: its digits, its first digit, its value, its length. No Go in sight.
-/
import Derived.Lib.ItoaNum
import Derived.WalkKit
namespace Go.Proofs.Qxb6618396aDoor
open Go.Lib

/-- The value of a run of digits, read from the left. -/
def magOf (l : List UInt8) : Nat := l.foldl (fun a c => a * 10 + (c.toNat - 48)) 0

theorem magOf_snoc (l : List UInt8) (c : UInt8) : magOf (l ++ [c]) = magOf l * 10 + (c.toNat - 48) := by
  simp [magOf, List.foldl_append]

theorem dig_toNat (d : Nat) (h : d < 10) : (UInt8.ofNat (48 + d)).toNat = 48 + d := by
  simp; omega

theorem dec_digit (u : Nat) : ∀ c ∈ decDigits u, 48 ≤ c.toNat ∧ c.toNat ≤ 57 := by
  induction u using Nat.strongRecOn with
  | _ u ih =>
    intro c hc
    rw [decDigits] at hc
    split at hc
    · rename_i h
      simp only [List.mem_singleton] at hc
      subst hc
      rw [dig_toNat _ h]; omega
    · rename_i h
      rcases List.mem_append.1 hc with hc | hc
      · exact ih _ (by omega) c hc
      · simp only [List.mem_singleton] at hc
        subst hc
        rw [dig_toNat _ (by omega)]; omega

theorem dec_mag (u : Nat) : magOf (decDigits u) = u := by
  induction u using Nat.strongRecOn with
  | _ u ih =>
    rw [decDigits]
    split
    · rename_i h
      simp only [magOf, List.foldl_cons, List.foldl_nil]
      rw [dig_toNat _ h]; omega
    · rename_i h
      rw [magOf_snoc, ih _ (by omega), dig_toNat _ (by omega)]; omega

theorem dec_head (u : Nat) (h1 : 1 ≤ u) : ∃ c r, decDigits u = c :: r ∧ 49 ≤ c.toNat ∧ c.toNat ≤ 57 := by
  induction u using Nat.strongRecOn with
  | _ u ih =>
    rw [decDigits]
    split
    · rename_i h
      exact ⟨_, [], rfl, by rw [dig_toNat _ h]; omega⟩
    · rename_i h
      obtain ⟨c, r, e, hc⟩ := ih (u / 10) (by omega) (by omega)
      exact ⟨c, r ++ [UInt8.ofNat (48 + u % 10)], by rw [e]; rfl, hc⟩

theorem dec_zero : decDigits 0 = [48] := by rw [decDigits]; rfl

theorem nDig_le : ∀ (k u : Nat), u < 10 ^ (k + 1) → nDigits u ≤ k + 1
  | 0, u, h => by rw [nDigits_small (by simpa using h)]; omega
  | k + 1, u, h => by
    by_cases hu : u < 10
    · rw [nDigits_small hu]; omega
    · rw [nDigits_big hu]
      have := nDig_le k (u / 10) (by rw [Nat.pow_succ] at h; omega)
      omega

theorem dec_len (u : Nat) (h : u < 10000000000000000000) : (decDigits u).length ≤ 19 := by
  rw [decDigits_length]; exact nDig_le 18 u (by simpa using h)

theorem dec_pos (u : Nat) : 1 ≤ (decDigits u).length := by rw [decDigits_length]; exact nDigits_pos u

end Go.Proofs.Qxb6618396aDoor
