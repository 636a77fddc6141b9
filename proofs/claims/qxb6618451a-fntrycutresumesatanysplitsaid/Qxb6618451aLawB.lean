/-
  THE WALK of FnTryCutResumesAtAnySplit.
-/
import Derived.Test.Qxb6618451aLawA
namespace Go.Proofs.Qxb6618451a
open Go.RowKit

set_option maxRecDepth 20000 in
set_option maxHeartbeats 1000000 in
theorem bytesB_yes (a : Option Addr) (n cap : Nat) (mn av mx st h0 pp : Int) (G S M : Array Value) (w : World) (hl : n ≤ 1048576) :
    Calls Try.prog 8 #[.int .i64 mn, .int .i64 av, .int .i64 mx, .agg G, .agg S, .agg M, .int .i64 st, .int .u64 h0, .slice a n cap, .int .i64 pp] w fun e w' => e = .returned (.bool true) ∧ Below w.heap.size w w' := by
  go_enter Try.func8, Try.ntmps8
  go_wp2
  go_ret
  exact ⟨rfl, (((Below.refl _ _).alloc (Nat.le_refl _) _).alloc (by simp) _).alloc (by simp; omega) _⟩

set_option maxRecDepth 20000 in
set_option maxHeartbeats 1000000 in
theorem bytesB_no (a : Option Addr) (n cap : Nat) (mn av mx st h0 pp : Int) (G S M : Array Value) (w : World) (hm : n ≤ maxLen) (hl : 1048576 < n) :
    Calls Try.prog 8 #[.int .i64 mn, .int .i64 av, .int .i64 mx, .agg G, .agg S, .agg M, .int .i64 st, .int .u64 h0, .slice a n cap, .int .i64 pp] w fun e w' => e = .returned (.bool false) ∧ Below w.heap.size w w' := by
  unfold maxLen at hm
  go_enter Try.func8, Try.ntmps8
  go_wp2
  go_ret
  exact ⟨rfl, (((Below.refl _ _).alloc (Nat.le_refl _) _).alloc (by simp) _).alloc (by simp; omega) _⟩

set_option maxRecDepth 20000 in
set_option maxHeartbeats 1000000 in
theorem lawB_long (a : Option Addr) (n cap : Nat) (mn av mx st h0 pp : Int) (G S : Array Value) (C : Ctx) (w : World) (hG : Hid (G.size = 256)) (hS : Hid (S.size = 256)) (hm : n ≤ maxLen) (hl : 1048576 < n) :
    Calls Try.prog 4 #[.int .i64 mn, .int .i64 av, .int .i64 mx, .agg G, .agg S, .agg #[.int .u64 C.m0, .int .u64 C.m1], .int .i64 st, .int .u64 h0, .slice a n cap, .int .i64 pp] w fun e w' => e = .returned (.bool true) ∧ Below w.heap.size w w' := by
  have H3 := hide (three w (.cells G 23) (.cells S 23) (.cells #[.int .u64 C.m0, .int .u64 C.m1] 24))
  go_enter Try.func4, Try.ntmps4
  go_wp2_with (first | (refine wpList_load_row rfl 23 (.tmp 13) rfl w.heap.size rfl 23 G (0, 0) _ H3.out.1 Try.underlying23 rfl (by rw [hG.out]; exact info23) ?_) | (refine wpList_load_row rfl 23 (.tmp 14) rfl (w.heap.size + 1) rfl 23 S (0, 0) _ H3.out.2.1 Try.underlying23 rfl (by rw [hS.out]; exact info23) ?_))
  refine (bytesB_no _ _ _ _ _ _ _ _ _ _ _ _ _ hm hl).mono ?_
  rintro e w2 ⟨rfl, hb⟩
  go_wp2
  go_ret
  exact ⟨rfl, H3.out.2.2.2.1.trans (hb.mono (by rw [H3.out.2.2.2.2]; omega))⟩

set_option maxRecDepth 20000 in
set_option maxHeartbeats 1000000 in
theorem lawB_neg (a : Option Addr) (n cap : Nat) (mn av mx st h0 pp : Int) (G S : Array Value) (C : Ctx) (w : World) (hG : Hid (G.size = 256)) (hS : Hid (S.size = 256)) (hn : n ≤ 1048576) (hst : st < 0) :
    Calls Try.prog 4 #[.int .i64 mn, .int .i64 av, .int .i64 mx, .agg G, .agg S, .agg #[.int .u64 C.m0, .int .u64 C.m1], .int .i64 st, .int .u64 h0, .slice a n cap, .int .i64 pp] w fun e w' => e = .returned (.bool true) ∧ Below w.heap.size w w' := by
  have H3 := hide (three w (.cells G 23) (.cells S 23) (.cells #[.int .u64 C.m0, .int .u64 C.m1] 24))
  go_enter Try.func4, Try.ntmps4
  go_wp2_with (first | (refine wpList_load_row rfl 23 (.tmp 13) rfl w.heap.size rfl 23 G (0, 0) _ H3.out.1 Try.underlying23 rfl (by rw [hG.out]; exact info23) ?_) | (refine wpList_load_row rfl 23 (.tmp 14) rfl (w.heap.size + 1) rfl 23 S (0, 0) _ H3.out.2.1 Try.underlying23 rfl (by rw [hS.out]; exact info23) ?_))
  refine (bytesB_yes _ _ _ _ _ _ _ _ _ _ _ _ _ hn).mono ?_
  rintro e w2 ⟨rfl, hb⟩
  obtain ⟨t0, t1, t2, t3, t4⟩ := H3.out
  have u0 := (hb.block _ (by rw [t4]; omega)).trans t0
  have u1 := (hb.block _ (by rw [t4]; omega)).trans t1
  have u2 := (hb.block _ (by rw [t4]; omega)).trans t2
  have B2 := hide (t3.trans (hb.mono (by rw [t4]; omega)))
  have Z2 : w.heap.size + 1 + 1 + 1 ≤ w2.heap.size := by have := hb.size; rw [t4] at this; exact this
  clear hb t0 t1 t2 t3 t4 H3
  go_wp2
  go_ret
  exact ⟨rfl, B2.out⟩

set_option maxRecDepth 20000 in
set_option maxHeartbeats 1000000 in
theorem lawB_out (a : Option Addr) (n cap : Nat) (mn av mx st h0 pp : Int) (G S : Array Value) (C : Ctx) (w : World) (hG : Hid (G.size = 256)) (hS : Hid (S.size = 256)) (hn : n ≤ 1048576) (hst : 0 ≤ st) (hp : pp < 0 ∨ (n : Int) < pp) :
    Calls Try.prog 4 #[.int .i64 mn, .int .i64 av, .int .i64 mx, .agg G, .agg S, .agg #[.int .u64 C.m0, .int .u64 C.m1], .int .i64 st, .int .u64 h0, .slice a n cap, .int .i64 pp] w fun e w' => e = .returned (.bool true) ∧ Below w.heap.size w w' := by
  rcases hp with hp | hp
  · have hd : decide (pp < 0) = true := decide_eq_true hp
    have H3 := hide (three w (.cells G 23) (.cells S 23) (.cells #[.int .u64 C.m0, .int .u64 C.m1] 24))
    go_enter Try.func4, Try.ntmps4
    go_wp2_with (first | (refine wpList_load_row rfl 23 (.tmp 13) rfl w.heap.size rfl 23 G (0, 0) _ H3.out.1 Try.underlying23 rfl (by rw [hG.out]; exact info23) ?_) | (refine wpList_load_row rfl 23 (.tmp 14) rfl (w.heap.size + 1) rfl 23 S (0, 0) _ H3.out.2.1 Try.underlying23 rfl (by rw [hS.out]; exact info23) ?_))
    refine (bytesB_yes _ _ _ _ _ _ _ _ _ _ _ _ _ hn).mono ?_
    rintro e w2 ⟨rfl, hb⟩
    obtain ⟨t0, t1, t2, t3, t4⟩ := H3.out
    have u0 := (hb.block _ (by rw [t4]; omega)).trans t0
    have u1 := (hb.block _ (by rw [t4]; omega)).trans t1
    have u2 := (hb.block _ (by rw [t4]; omega)).trans t2
    have B2 := hide (t3.trans (hb.mono (by rw [t4]; omega)))
    have Z2 : w.heap.size + 1 + 1 + 1 ≤ w2.heap.size := by have := hb.size; rw [t4] at this; exact this
    clear hb t0 t1 t2 t3 t4 H3
    go_wp2
    go_ret
    exact ⟨rfl, B2.out⟩
  · have hd : decide (pp < 0) = false := decide_eq_false (by omega)
    have hd2 : decide ((n : Int) < pp) = true := decide_eq_true hp
    have H3 := hide (three w (.cells G 23) (.cells S 23) (.cells #[.int .u64 C.m0, .int .u64 C.m1] 24))
    go_enter Try.func4, Try.ntmps4
    go_wp2_with (first | (refine wpList_load_row rfl 23 (.tmp 13) rfl w.heap.size rfl 23 G (0, 0) _ H3.out.1 Try.underlying23 rfl (by rw [hG.out]; exact info23) ?_) | (refine wpList_load_row rfl 23 (.tmp 14) rfl (w.heap.size + 1) rfl 23 S (0, 0) _ H3.out.2.1 Try.underlying23 rfl (by rw [hS.out]; exact info23) ?_))
    refine (bytesB_yes _ _ _ _ _ _ _ _ _ _ _ _ _ hn).mono ?_
    rintro e w2 ⟨rfl, hb⟩
    obtain ⟨t0, t1, t2, t3, t4⟩ := H3.out
    have u0 := (hb.block _ (by rw [t4]; omega)).trans t0
    have u1 := (hb.block _ (by rw [t4]; omega)).trans t1
    have u2 := (hb.block _ (by rw [t4]; omega)).trans t2
    have B2 := hide (t3.trans (hb.mono (by rw [t4]; omega)))
    have Z2 : w.heap.size + 1 + 1 + 1 ≤ w2.heap.size := by have := hb.size; rw [t4] at this; exact this
    clear hb t0 t1 t2 t3 t4 H3
    go_wp2
    go_ret
    exact ⟨rfl, B2.out⟩

end Go.Proofs.Qxb6618451a
