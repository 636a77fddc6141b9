/-
  THE WALK of FnFindAgreesOverAnyCutAndFindsExactlyThePresentSPI.
-/
import Derived.Test.Qxb6618413aFind
namespace Go.Proofs.Qxb6618413a
open Go.RowKit

theorem info36 : (Try.prog.info? 36).map (fun i => (i.size, i.bytes)) = some (21, 264) := by kernel_rfl

/-- The cells of a zero TEK. -/
def zeroTek : Array Value := #[.int .u8 0, .string ⟨#[]⟩, .string ⟨#[]⟩, .string ⟨#[]⟩, .string ⟨#[]⟩, .slice none 0 0, .string ⟨#[]⟩, .int .u32 0, .int .u16 0, .string ⟨#[]⟩, .int .i64 0, .bool false, .int .u16 0, .string ⟨#[]⟩, .int .i64 0, .bool false, .int .u32 0, .int .u32 0, .int .u16 0, .slice none 0 0, .slice none 0 0]

theorem zero36 : (Try.prog.info? 36).map (·.zero) = some (some (.agg zeroTek)) := by kernel_rfl

/-- The zero TEKs that 'make' lays. -/
def blank (n : Nat) : Array Value := madeCells zeroTek (n * 21)

theorem made (len : Nat) (hl : len ≤ 65536) (w : World) : (Instr.makeSlice 25 (.int .i64 (len : Int)) (.int .i64 (len : Int))).run Try.prog w = .ok (.slice (some ⟨w.heap.size, 0, none⟩) len len) (w.alloc (.cells (blank len) 36)) := by
  obtain ⟨i0, hi, hzz⟩ := Option.map_eq_some_iff.1 info36
  obtain ⟨i1, hi1, hz1⟩ := Option.map_eq_some_iff.1 zero36
  obtain rfl : i0 = i1 := Option.some.inj (hi.symm.trans hi1)
  simp only [Prod.mk.injEq] at hzz
  have hmk := run_make (P := Try.prog) w 25 36 i0 (.agg zeroTek) Try.underlying25 hi hz1 .i64 .i64 (len : Int) (len : Int) (by omega) (by omega) (by rw [hzz.2]; omega) (by omega)
  simp only [Int.toNat_natCast, hzz.1] at hmk
  exact hmk

theorem blank_at (n j : Nat) (hj : j < n) : (blank n)[j * 21 + 7]? = some (.int .u32 0) := by
  unfold blank madeCells
  rw [Array.getElem?_map, Array.getElem?_range]
  rw [if_pos (by omega)]
  simp [zeroTek, show (j * 21 + 7) % 21 = 7 by omega]

set_option maxHeartbeats 400000 in
theorem bytes_ok (a : Option Addr) (len cap : Nat) (a1 a2 : Int) (w : World) (hl : len ≤ 65536) :
    Calls Try.prog 4 #[.slice a len cap, .int .u32 a1, .int .i64 a2] w fun e w' => e = .returned (.bool true) ∧ w = w' := by
  go_enter Try.func4, Try.ntmps4
  go_wp2
  go_ret
  exact ⟨rfl, rfl⟩

set_option maxHeartbeats 400000 in
theorem walk_long (a : Option Addr) (len cap : Nat) (a1 a2 : Int) (w : World) (hm : len ≤ maxLen) (h : 65536 < len) :
    Calls Try.prog 3 #[.slice a len cap, .int .u32 a1, .int .i64 a2] w fun e w' => e = .returned (.bool true) ∧ Below w.heap.size w w' := by
  unfold maxLen at hm
  by_cases h1 : 1048576 < len
  · go_enter Try.func3, Try.ntmps3
    go_wp2
    go_ret
    exact ⟨rfl, Below.refl _ _⟩
  · go_enter Try.func3, Try.ntmps3
    go_wp2
    go_ret
    exact ⟨rfl, Below.refl _ _⟩

set_option maxHeartbeats 400000 in
theorem walk_k (a : Option Addr) (len cap : Nat) (a1 a2 : Int) (w : World) (h : len ≤ 65536) (hk : a2 < 0 ∨ (len : Int) < a2) :
    Calls Try.prog 3 #[.slice a len cap, .int .u32 a1, .int .i64 a2] w fun e w' => e = .returned (.bool true) ∧ Below w.heap.size w w' := by
  rcases hk with hk | hk
  · go_enter Try.func3, Try.ntmps3
    go_wp2
    go_ret
    exact ⟨rfl, Below.refl _ _⟩
  · have hk' : ¬ a2 < 0 := by omega
    go_enter Try.func3, Try.ntmps3
    go_wp2
    go_ret
    exact ⟨rfl, Below.refl _ _⟩

set_option maxHeartbeats 400000 in
/-- No SPI at all. -/
theorem walk_empty (a : Option Addr) (cap : Nat) (a1 : Int) (w : World) :
    Calls Try.prog 3 #[.slice a 0 cap, .int .u32 a1, .int .i64 0] w fun e w' => e = .returned (.bool true) ∧ Below w.heap.size w w' := by
  have hmk : ∀ w, (Instr.makeSlice 25 (.int .i64 0) (.int .i64 0)).run Try.prog w = .ok (.slice (some ⟨w.heap.size, 0, none⟩) 0 0) (w.alloc (.cells (blank 0) 36)) := made 0 (by omega)
  go_enter Try.func3, Try.ntmps3
  go_wp2_with (first | (go_at_call 4; refine (bytes_ok _ _ _ _ _ _ (by omega)).mono ?_; rintro e w' ⟨rfl, rfl⟩))
  refine wp_loop_rounds 1 ?_
  rw [rounds_succ]
  go_wp2_with (first | (go_at_call 5; refine (zz_of (find_empty _ _ _ _)).mono ?_; rintro e w' ⟨rfl, rfl⟩))
  refine wp_loop_rounds 1 ?_
  rw [rounds_succ]
  go_wp2
  go_ret
  exact ⟨rfl, (Below.refl _ _).alloc (Nat.le_refl _) _⟩

end Go.Proofs.Qxb6618413a
