/-
  THE PLAIN LAWS: the rolling hash of FastCDC, step by step and as a window sum. No Go in sight.
-/
import Derived.WalkKit
namespace Go.Proofs.Qxb6618451a

/-- What the walk reads: the bytes, the two tables, the two masks, half the average size, half the least size. -/
structure Ctx where
  D : Nat → Int
  g : Nat → Int
  s : Nat → Int
  m0 : Int
  m1 : Int
  av : Int
  mh : Int

def sAt (C : Ctx) (t : Nat) : Int := C.s (C.D (2 * t)).toNat
def gAt (C : Ctx) (t : Nat) : Int := C.g (C.D (2 * t + 1)).toNat
/-- The hash in the middle of step k, and at its end. -/
def mid (C : Ctx) (k : Nat) (h : Int) : Int := IntKind.u64.wrap (IntKind.u64.wrap (h * 4) + sAt C k)
def fin (C : Ctx) (k : Nat) (m : Int) : Int := IntKind.u64.wrap (m + gAt C k)
/-- The hash behind j whole steps from k0 on. -/
def H (C : Ctx) (h0 : Int) (k0 : Nat) : Nat → Int
  | 0 => h0
  | j + 1 => fin C (k0 + j) (mid C (k0 + j) (H C h0 k0 j))

/-- The window sum, its first a terms. -/
def win (C : Ctx) (h0 : Int) (k0 j : Nat) : Nat → Int
  | 0 => if j < 32 then IntKind.u64.wrap (h0 * 2 ^ (2 * j)) else 0
  | a + 1 => IntKind.u64.wrap (win C h0 k0 j a + IntKind.u64.wrap (IntKind.u64.wrap (sAt C (k0 + j - 1 - a) + gAt C (k0 + j - 1 - a)) * 2 ^ (2 * a)))
def hashW (C : Ctx) (h0 : Int) (k0 j : Nat) : Int := win C h0 k0 j (min j 32)

def tt (C : Ctx) (t : Nat) : Int := sAt C t + gAt C t
def E (C : Ctx) (h0 : Int) (k0 : Nat) : Nat → Int
  | 0 => h0
  | j + 1 => 4 * E C h0 k0 j + tt C (k0 + j)
def S (C : Ctx) (k0 j : Nat) : Nat → Int
  | 0 => 0
  | a + 1 => S C k0 j a + tt C (k0 + j - 1 - a) * 4 ^ a

theorem H_eq (C : Ctx) (h0 : Int) (k0 : Nat) (l0 : 0 ≤ h0) (l1 : h0 < 18446744073709551616) (j : Nat) : H C h0 k0 j = E C h0 k0 j % 18446744073709551616 := by
  induction j with
  | zero => show h0 = h0 % _; omega
  | succ j ih =>
    show fin C (k0 + j) (mid C (k0 + j) (H C h0 k0 j)) = (4 * E C h0 k0 j + tt C (k0 + j)) % _
    rw [ih]
    simp only [fin, mid, tt, IntKind.wrap_u64]
    omega

theorem S_shift (C : Ctx) (k0 j : Nat) (a : Nat) (h : a ≤ j) : S C k0 (j + 1) (a + 1) = tt C (k0 + j) + 4 * S C k0 j a := by
  induction a with
  | zero => simp [S]
  | succ a ih =>
    have ih' := ih (by omega)
    have e1 : S C k0 (j + 1) (a + 1 + 1) = S C k0 (j + 1) (a + 1) + tt C (k0 + (j + 1) - 1 - (a + 1)) * 4 ^ (a + 1) := rfl
    have e2 : S C k0 j (a + 1) = S C k0 j a + tt C (k0 + j - 1 - a) * 4 ^ a := rfl
    rw [e1, e2, ih', show k0 + (j + 1) - 1 - (a + 1) = k0 + j - 1 - a by omega, Int.pow_succ]
    rw [Int.mul_add, ← Int.add_assoc]
    congr 1
    rw [← Int.mul_assoc, Int.mul_comm _ 4]

theorem E_eq (C : Ctx) (h0 : Int) (k0 : Nat) (j : Nat) : E C h0 k0 j = h0 * 4 ^ j + S C k0 j j := by
  induction j with
  | zero => simp [E, S]
  | succ j ih =>
    show 4 * E C h0 k0 j + tt C (k0 + j) = _
    rw [ih, S_shift C k0 j j (Nat.le_refl _), Int.pow_succ, Int.mul_add]
    rw [← Int.mul_assoc h0, Int.mul_comm (h0 * 4 ^ j) 4]
    omega

theorem S_split (C : Ctx) (k0 j : Nat) (d : Nat) : ∃ R, S C k0 j (32 + d) = S C k0 j 32 + 18446744073709551616 * R := by
  induction d with
  | zero => exact ⟨0, by simp⟩
  | succ d ih =>
    obtain ⟨R, hR⟩ := ih
    refine ⟨R + tt C (k0 + j - 1 - (32 + d)) * 4 ^ d, ?_⟩
    show S C k0 j (32 + d) + tt C (k0 + j - 1 - (32 + d)) * 4 ^ (32 + d) = _
    rw [hR, Int.pow_add, show (4 : Int) ^ 32 = 18446744073709551616 from by decide]
    rw [Int.mul_add, Int.add_assoc]
    congr 2
    rw [← Int.mul_assoc, Int.mul_comm _ 18446744073709551616, Int.mul_assoc]

theorem two_four (a : Nat) : (2 : Int) ^ (2 * a) = 4 ^ a := by
  rw [Int.pow_mul]; rfl

theorem win_eq (C : Ctx) (h0 : Int) (k0 j a : Nat) : win C h0 k0 j a = ((if j < 32 then h0 * 4 ^ j else 0) + S C k0 j a) % 18446744073709551616 := by
  induction a with
  | zero =>
    show (if j < 32 then IntKind.u64.wrap (h0 * 2 ^ (2 * j)) else 0) = _
    split
    · rw [IntKind.wrap_u64, two_four]; simp [S]
    · simp [S]
  | succ a ih =>
    show IntKind.u64.wrap (win C h0 k0 j a + IntKind.u64.wrap (IntKind.u64.wrap (tt C (k0 + j - 1 - a)) * 2 ^ (2 * a))) = (_ + (S C k0 j a + tt C (k0 + j - 1 - a) * 4 ^ a)) % _
    rw [ih]
    simp only [IntKind.wrap_u64, two_four]
    generalize (if j < 32 then h0 * 4 ^ j else 0) = B
    have e : tt C (k0 + j - 1 - a) % 18446744073709551616 * 4 ^ a % 18446744073709551616 = tt C (k0 + j - 1 - a) * 4 ^ a % 18446744073709551616 := by
      rw [Int.mul_emod, Int.emod_emod, ← Int.mul_emod]
    rw [e]
    generalize tt C (k0 + j - 1 - a) * 4 ^ a = X
    omega

theorem hashW_eq (C : Ctx) (h0 : Int) (k0 j : Nat) (l0 : 0 ≤ h0) (l1 : h0 < 18446744073709551616) : hashW C h0 k0 j = H C h0 k0 j := by
  unfold hashW
  rw [win_eq, H_eq C h0 k0 l0 l1, E_eq]
  by_cases hj : j < 32
  · rw [if_pos hj, Nat.min_eq_left (by omega)]
  · rw [if_neg hj, Nat.min_eq_right (by omega)]
    obtain ⟨d, rfl⟩ : ∃ d, j = 32 + d := ⟨j - 32, by omega⟩
    obtain ⟨R, hR⟩ := S_split C k0 (32 + d) d
    rw [hR, Int.pow_add, show (4 : Int) ^ 32 = 18446744073709551616 from by decide]
    rw [show h0 * (18446744073709551616 * 4 ^ d) = 18446744073709551616 * (h0 * 4 ^ d) by rw [← Int.mul_assoc, Int.mul_comm h0, Int.mul_assoc]]
    generalize h0 * 4 ^ d = X
    omega

/-! ### The scan: step by step, up to the first cut -/
def hitA (m mk : Int) : Bool := bits BinOp.and IntKind.u64 m (IntKind.u64.wrap (mk * 2)) == 0
def hitB (m mk : Int) : Bool := bits BinOp.and IntKind.u64 m mk == 0
def mask (C : Ctx) (k : Nat) : Int := if (k : Int) < C.av then C.m0 else C.m1

/-- What comes out: was there a cut; the length; the fingerprint; the step and the hash that are left. -/
structure Out where
  cut : Bool
  n : Int
  fp : Int
  k : Int
  h : Int

def scan (C : Ctx) : Nat → Nat → Int → Out
  | 0, k, h => ⟨false, 0, 0, k, h⟩
  | f + 1, k, h =>
    if hitA (mid C k h) (mask C k) = true then ⟨true, 2 * k, mid C k h, C.mh, 0⟩
    else if hitB (fin C k (mid C k h)) (mask C k) = true then ⟨true, 2 * k + 1, fin C k (mid C k h), C.mh, 0⟩
    else scan C f (k + 1) (fin C k (mid C k h))

theorem scan_done (C : Ctx) (l k : Nat) (h : Int) (hk : l ≤ k) : scan C (l - k) k h = ⟨false, 0, 0, k, h⟩ := by
  rw [show l - k = 0 by omega]; rfl
theorem scan_a (C : Ctx) (l k : Nat) (h : Int) (hk : k < l) (a : hitA (mid C k h) (mask C k) = true) : scan C (l - k) k h = ⟨true, 2 * k, mid C k h, C.mh, 0⟩ := by
  rw [show l - k = (l - (k + 1)) + 1 by omega, scan, if_pos a]
theorem scan_b (C : Ctx) (l k : Nat) (h : Int) (hk : k < l) (a : hitA (mid C k h) (mask C k) = false) (b : hitB (fin C k (mid C k h)) (mask C k) = true) : scan C (l - k) k h = ⟨true, 2 * k + 1, fin C k (mid C k h), C.mh, 0⟩ := by
  rw [show l - k = (l - (k + 1)) + 1 by omega, scan, if_neg (by simp [a]), if_pos b]
theorem scan_c (C : Ctx) (l k : Nat) (h : Int) (hk : k < l) (a : hitA (mid C k h) (mask C k) = false) (b : hitB (fin C k (mid C k h)) (mask C k) = false) : scan C (l - k) k h = scan C (l - (k + 1)) (k + 1) (fin C k (mid C k h)) := by
  rw [show l - k = (l - (k + 1)) + 1 by omega, scan, if_neg (by simp [a]), if_neg (by simp [b])]

/-- A scan in two pieces. -/
theorem scan_cut (C : Ctx) (f f' k : Nat) (h : Int) (c : (scan C f k h).cut = true) : scan C (f + f') k h = scan C f k h := by
  induction f generalizing k h with
  | zero => simp [scan] at c
  | succ f ih =>
    rw [show f + 1 + f' = (f + f') + 1 by omega, scan, scan]
    rw [scan] at c
    split
    · rfl
    · rename_i ha
      rw [if_neg ha] at c
      split
      · rfl
      · rename_i hb
        rw [if_neg hb] at c
        exact ih _ _ c
theorem scan_more (C : Ctx) (f f' k : Nat) (h : Int) (c : (scan C f k h).cut = false) : (scan C f k h).k = ((k + f : Nat) : Int) ∧ scan C (f + f') k h = scan C f' (k + f) (scan C f k h).h := by
  induction f generalizing k h with
  | zero => exact ⟨by simp [scan], by simp [scan]⟩
  | succ f ih =>
    rw [show f + 1 + f' = (f + f') + 1 by omega, scan, scan]
    rw [scan] at c
    by_cases ha : hitA (mid C k h) (mask C k) = true
    · rw [if_pos ha] at c; cases c
    · rw [if_neg ha] at c
      rw [if_neg ha, if_neg ha]
      by_cases hb : hitB (fin C k (mid C k h)) (mask C k) = true
      · rw [if_pos hb] at c; cases c
      · rw [if_neg hb] at c
        rw [if_neg hb, if_neg hb]
        obtain ⟨h1, h2⟩ := ih (k + 1) _ c
        exact ⟨by rw [h1]; omega, by rw [h2, show k + 1 + f = k + (f + 1) by omega]⟩

end Go.Proofs.Qxb6618451a
