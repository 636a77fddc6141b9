/-
  THE WALK of zzHashAfter.
-/
import Derived.Test.Qxb6618451aRows
import Derived.Test.Qxb6618451aPlain
import Derived.WalkKit
import Derived.WalkSpells
import Derived.WalkLawsBesides
import Derived.OpenShut
import Derived.Deep.QuietTactic
import Derived.BigQuiet
namespace Go.Proofs.Qxb6618451a
open Go.RowKit

/-- n bytes lie in block b from its head on. -/
def Bytes (w : World) (b n : Nat) (D : Nat → Int) : Prop := ∀ i, i < n → w.cell? ⟨b, i, none⟩ = some (.int .u8 (D i))
/-- A table of 256 words lies in block b from cell 'off' on. -/
def Table (w : World) (b off : Nat) (f : Nat → Int) : Prop := ∀ i, i < 256 → w.cell? ⟨b, off + i, none⟩ = some (.int .u64 (f i))

set_option maxHeartbeats 1000000 in
theorem hash_any (C : Ctx) (h0 : Int) (k0 j : Nat) (bd n cap bg bs : Nat) (w : World) (hn : n ≤ 1048576) (hj : 2 * (k0 + j) ≤ n) (hD : Hid (Bytes w bd n C.D)) (hr : Hid (∀ i, 0 ≤ C.D i ∧ C.D i ≤ 255)) (hg : Hid (Table w bg 0 C.g)) (hs : Hid (Table w bs 0 C.s)) :
    Calls Try.prog 10 #[.int .u64 h0, .int .i64 k0, .int .i64 j, .slice (some ⟨bd, 0, none⟩) n cap, .pointer (some ⟨bg, 0, none⟩), .pointer (some ⟨bs, 0, none⟩)] w fun e w' => e = .returned (.int .u64 (hashW C h0 k0 j)) ∧ ∃ q, w' = w.drewN q := by
  by_cases hj32 : j < 32
  · go_enter Try.func10, Try.ntmps10
    go_wp2
    go_loopw [13, 14] (fun h a wr => ∃ (i : Nat) (x : Int), i ≤ j ∧ i ≤ 32 ∧ a = .int .i64 i ∧ h = .int .u64 x ∧ Hid (x = win C h0 k0 j i) ∧ ∃ q, wr = w.drewN q) (fun _ a _ => 32 - (intOf a).toNat)
    case atStart => exact ⟨0, _, by omega, by omega, rfl, rfl, by show _ = win C h0 k0 j 0; rw [win, if_pos hj32], 0, rfl⟩
    case round =>
      obtain ⟨i, x, hi, hi32, rfl, rfl, HX, q, rfl⟩ := hrel
      by_cases l1 : i < j
      · by_cases l2 : i < 32
        · obtain ⟨t, ht⟩ : ∃ t : Nat, (k0 : Int) + (j : Int) - 1 - (i : Int) = (t : Int) := ⟨k0 + j - 1 - i, by omega⟩
          have htn : t = k0 + j - 1 - i := by omega
          have HN : Hid (t = k0 + j - 1 - i) := htn
          have hb1 : 2 * t + 1 < n := by omega
          have d1 := hr.out (2 * t)
          have d2 := hr.out (2 * t + 1)
          have c1 := hD.out (2 * t) (by omega)
          have c2 := hD.out (2 * t + 1) (by omega)
          obtain ⟨y1, hy1⟩ : ∃ y1, y1 = C.D (2 * t) := ⟨_, rfl⟩
          obtain ⟨y2, hy2⟩ : ∃ y2, y2 = C.D (2 * t + 1) := ⟨_, rfl⟩
          rw [← hy1] at c1 d1
          rw [← hy2] at c2 d2
          have c3 : w.cell? ⟨bs, y1.toNat, none⟩ = some (.int .u64 (sAt C t)) := by
            have := hs.out y1.toNat (by omega)
            rw [Nat.zero_add] at this
            rw [this, hy1]; rfl
          have c4 : w.cell? ⟨bg, y2.toNat, none⟩ = some (.int .u64 (gAt C t)) := by
            have := hg.out y2.toNat (by omega)
            rw [Nat.zero_add] at this
            rw [this, hy2]; rfl
          have hi1 : (2 * (t : Int)) < (n : Int) := by omega
          have hi2 : (2 * (t : Int)) + 1 < (n : Int) := by omega
          have hi3 : (y1 : Int) < 256 := by omega
          have hi4 : (y2 : Int) < 256 := by omega
          have hi5 : (0 : Int) ≤ y1 := by omega
          have hi6 : (0 : Int) ≤ y2 := by omega
          clear hy1 hy2 d1 d2 htn
          go_wp2
          go_quiet (fail)
          go_wp2
          go_roundw
          case rel => exact ⟨i + 1, _, by omega, by omega, by go_num, rfl, by show _ = win C h0 k0 j (i + 1); rw [HX.out, HN.out]; rfl, _, rfl⟩
          case measure => simp [intOf]; omega
        · have hd : decide ((i : Int) < 32) = false := decide_eq_false (by omega)
          have ei : min j 32 = i := by omega
          go_wp2
          go_ret
          exact ⟨by rw [hashW, ei, ← HX.out]; rfl, _, rfl⟩
      · have hd : decide ((i : Int) < (j : Int)) = false := decide_eq_false (by omega)
        have ei : min j 32 = i := by omega
        go_wp2
        go_ret
        exact ⟨by rw [hashW, ei, ← HX.out]; rfl, _, rfl⟩
  · go_enter Try.func10, Try.ntmps10
    go_wp2
    go_loopw [13, 14] (fun h a wr => ∃ (i : Nat) (x : Int), i ≤ j ∧ i ≤ 32 ∧ a = .int .i64 i ∧ h = .int .u64 x ∧ Hid (x = win C h0 k0 j i) ∧ ∃ q, wr = w.drewN q) (fun _ a _ => 32 - (intOf a).toNat)
    case atStart => exact ⟨0, _, by omega, by omega, rfl, rfl, by show _ = win C h0 k0 j 0; rw [win, if_neg hj32], 0, rfl⟩
    case round =>
      obtain ⟨i, x, hi, hi32, rfl, rfl, HX, q, rfl⟩ := hrel
      by_cases l1 : i < j
      · by_cases l2 : i < 32
        · obtain ⟨t, ht⟩ : ∃ t : Nat, (k0 : Int) + (j : Int) - 1 - (i : Int) = (t : Int) := ⟨k0 + j - 1 - i, by omega⟩
          have htn : t = k0 + j - 1 - i := by omega
          have HN : Hid (t = k0 + j - 1 - i) := htn
          have hb1 : 2 * t + 1 < n := by omega
          have d1 := hr.out (2 * t)
          have d2 := hr.out (2 * t + 1)
          have c1 := hD.out (2 * t) (by omega)
          have c2 := hD.out (2 * t + 1) (by omega)
          obtain ⟨y1, hy1⟩ : ∃ y1, y1 = C.D (2 * t) := ⟨_, rfl⟩
          obtain ⟨y2, hy2⟩ : ∃ y2, y2 = C.D (2 * t + 1) := ⟨_, rfl⟩
          rw [← hy1] at c1 d1
          rw [← hy2] at c2 d2
          have c3 : w.cell? ⟨bs, y1.toNat, none⟩ = some (.int .u64 (sAt C t)) := by
            have := hs.out y1.toNat (by omega)
            rw [Nat.zero_add] at this
            rw [this, hy1]; rfl
          have c4 : w.cell? ⟨bg, y2.toNat, none⟩ = some (.int .u64 (gAt C t)) := by
            have := hg.out y2.toNat (by omega)
            rw [Nat.zero_add] at this
            rw [this, hy2]; rfl
          have hi1 : (2 * (t : Int)) < (n : Int) := by omega
          have hi2 : (2 * (t : Int)) + 1 < (n : Int) := by omega
          have hi3 : (y1 : Int) < 256 := by omega
          have hi4 : (y2 : Int) < 256 := by omega
          have hi5 : (0 : Int) ≤ y1 := by omega
          have hi6 : (0 : Int) ≤ y2 := by omega
          clear hy1 hy2 d1 d2 htn
          go_wp2
          go_quiet (fail)
          go_wp2
          go_roundw
          case rel => exact ⟨i + 1, _, by omega, by omega, by go_num, rfl, by show _ = win C h0 k0 j (i + 1); rw [HX.out, HN.out]; rfl, _, rfl⟩
          case measure => simp [intOf]; omega
        · have hd : decide ((i : Int) < 32) = false := decide_eq_false (by omega)
          have ei : min j 32 = i := by omega
          go_wp2
          go_ret
          exact ⟨by rw [hashW, ei, ← HX.out]; rfl, _, rfl⟩
      · have hd : decide ((i : Int) < (j : Int)) = false := decide_eq_false (by omega)
        have ei : min j 32 = i := by omega
        go_wp2
        go_ret
        exact ⟨by rw [hashW, ei, ← HX.out]; rfl, _, rfl⟩

end Go.Proofs.Qxb6618451a
