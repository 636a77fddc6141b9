/-
  THE WALKS of find and ZZfind.
-/
import Derived.Test.Qxb6618413aRows
import Derived.WalkKit
import Derived.WalkSpells
import Derived.WalkLawsBesides
import Derived.OpenShut
import Derived.Laws.CopyOwn
import Derived.LaidEqlPtr
namespace Go.Proofs.Qxb6618413a
open Go.RowKit

theorem neq_ptr_same {P : Program} (w : World) {tp te : TypeId} {j : TypeInfo} (a : Addr) (hp : P.underlying tp = some (.pointer te)) (hte : P.info? te = some j) :
    (binOp .neq tp (.pointer (some a)) (.pointer (some a))).run P w = .ok (.bool false) w := by
  have h : ∀ d : Nat, (Op.equalIn (d + 1) tp (.pointer (some a)) (.pointer (some a))).run P w = .ok true w := fun d => by
    simp [Op.equalIn, run_underlying hp, sizeOf, typeInfo, hte, run_sameAddr_same]
  simp only [binOp]
  simp [Op.equal, Op.maxDepth, h 9999]

/-- In block g, from cell 'off' on, lie n TEKs whose SPIs are the numbers f 0, f 1 .. -/
def Teks (w : World) (g off n : Nat) (f : Nat → Int) : Prop := ∀ j, j < n → w.cell? ⟨g, off + j * 21 + 7, none⟩ = some (.int .u32 (f j))

theorem first_or (n : Nat) (f : Nat → Int) (x : Int) : (∀ j, j < n → f j ≠ x) ∨ ∃ i, i < n ∧ f i = x ∧ ∀ j, j < i → f j ≠ x := by
  induction n with
  | zero => left; intro j hj; omega
  | succ n ih =>
    rcases ih with h | ⟨i, hi, h1, h2⟩
    · by_cases e : f n = x
      · exact .inr ⟨n, by omega, e, h⟩
      · left; intro j hj
        by_cases ej : j = n
        · subst ej; exact e
        · exact h j (by omega)
    · exact .inr ⟨i, by omega, h1, h2⟩

set_option maxHeartbeats 400000 in
theorem find_none (g off cap n : Nat) (f : Nat → Int) (spi : Int) (hZ : n ≤ 65536) (w : World) (hT : Teks w g off n f) (hno : ∀ j, j < n → f j ≠ spi) :
    Calls Try.prog 6 #[.slice (some ⟨g, off, none⟩) n cap, .int .u32 spi] w fun e w' => e = .returned (.pointer none) ∧ w = w' := by
  have HN : Hid (∀ j, j < n → f j ≠ spi) := hno
  clear hno
  go_enter Try.func6, Try.ntmps6
  go_wp2
  go_loop [5, 8] (fun _ i => ∃ k : Nat, k ≤ n ∧ i = .int .i64 k) (fun _ i => n - (intOf i).toNat)
  case atStart => exact ⟨0, by omega, rfl⟩
  case round =>
    obtain ⟨k, hk, rfl⟩ := hrel
    by_cases hlt : k < n
    · have hc := hT k hlt
      have hne := HN.out k hlt
      have hb : (f k == spi) = false := by simpa using hne
      obtain ⟨z, hz⟩ : ∃ z, z = f k := ⟨_, rfl⟩
      rw [← hz] at hc hb
      clear hne hz
      go_wp2
      go_round
      case rel => exact ⟨k + 1, by omega, by go_num⟩
      case measure => simp [intOf]; omega
    · go_wp2
      go_ret
      exact ⟨rfl, rfl⟩

set_option maxHeartbeats 400000 in
theorem find_empty (a : Option Addr) (cap : Nat) (spi : Int) (w : World) :
    Calls Try.prog 6 #[.slice a 0 cap, .int .u32 spi] w fun e w' => e = .returned (.pointer none) ∧ w = w' := by
  go_enter Try.func6, Try.ntmps6
  go_wp2
  refine wp_loop_rounds 1 ?_
  rw [rounds_succ]
  go_wp2
  go_ret
  exact ⟨rfl, rfl⟩

set_option maxHeartbeats 400000 in
theorem find_some (g off cap n : Nat) (f : Nat → Int) (spi : Int) (hZ : n ≤ 65536) (w : World) (hT : Teks w g off n f) (i q : Nat) (hi : i < n) (hq : Hid (q = off + i * 21)) (hat : Hid (f i = spi)) (hno : Hid (∀ j, j < i → f j ≠ spi)) :
    Calls Try.prog 6 #[.slice (some ⟨g, off, none⟩) n cap, .int .u32 spi] w fun e w' => e = .returned (.pointer (some ⟨g, q, none⟩)) ∧ w = w' := by
  go_enter Try.func6, Try.ntmps6
  go_wp2
  go_loop [5, 8] (fun _ t => ∃ k : Nat, k ≤ i ∧ t = .int .i64 k) (fun _ t => n - (intOf t).toNat)
  case atStart => exact ⟨0, by omega, rfl⟩
  case round =>
    obtain ⟨k, hk, rfl⟩ := hrel
    have hc := hT k (by omega)
    have hkl : k < n := by omega
    obtain ⟨z, hz⟩ : ∃ z, z = f k := ⟨_, rfl⟩
    rw [← hz] at hc
    by_cases hlt : k < i
    · have hne := hno.out k hlt
      rw [← hz] at hne
      have hb : (z == spi) = false := by simpa using hne
      clear hne hz
      go_wp2
      go_round
      case rel => exact ⟨k + 1, by omega, by go_num⟩
      case measure => simp [intOf]; omega
    · obtain rfl : k = i := by omega
      rw [hat.out] at hz
      subst hz
      have hqq := hq.out
      subst hqq
      clear hq hat hno hlt
      go_wp2
      go_ret
      exact ⟨rfl, rfl⟩

theorem find_any (g off cap n : Nat) (f : Nat → Int) (spi : Int) (hZ : n ≤ 65536) (w : World) (hT : Teks w g off n f) :
    ∃ p, Calls Try.prog 6 #[.slice (some ⟨g, off, none⟩) n cap, .int .u32 spi] w fun e w' => e = .returned (.pointer p) ∧ w = w' := by
  rcases first_or n f spi with h | ⟨i, hi, hat, hno⟩
  · exact ⟨none, find_none g off cap n f spi hZ w hT h⟩
  · exact ⟨_, find_some g off cap n f spi hZ w hT i _ hi rfl hat hno⟩

/-- ZZfind is find. -/
theorem zz_of {v : Value} {spi : Int} {w : World} {r : Value} (h : Calls Try.prog 6 #[v, .int .u32 spi] w fun e w' => e = .returned r ∧ w = w') :
    Calls Try.prog 5 #[v, .int .u32 spi] w fun e w' => e = .returned r ∧ w = w' := by
  have H : Hid (Calls Try.prog 6 #[v, .int .u32 spi] w fun e w' => e = .returned r ∧ w = w') := h
  clear h
  go_enter Try.func5, Try.ntmps5
  go_wp2_with fail
  refine H.out.mono ?_
  rintro e w' ⟨rfl, rfl⟩
  go_wp2
  go_ret
  exact ⟨rfl, rfl⟩

end Go.Proofs.Qxb6618413a
