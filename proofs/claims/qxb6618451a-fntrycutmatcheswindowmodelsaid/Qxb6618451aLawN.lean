/-
  THE WALK of FnTryCutMatchesWindowModel at nil data.
-/
import Derived.Test.Qxb6618451aLawA
namespace Go.Proofs.Qxb6618451a
open Go.RowKit

set_option maxRecDepth 20000 in
set_option maxHeartbeats 2000000 in
theorem lawA_nil (C : Ctx) (n k0 : Nat) (mn av mx h0 : Int) (G S : Array Value) (w : World) (hG : Hid (G.size = 256)) (hS : Hid (S.size = 256)) (gc : Hid (∀ i, i < 256 → G[i]? = some (.int .u64 (C.g i)))) (sc : Hid (∀ i, i < 256 → S[i]? = some (.int .u64 (C.s i))))
    (hn : n ≤ 1048576) (hk0m : k0 ≤ 9223372036854775807) (hr : Hid (∀ i, 0 ≤ C.D i ∧ C.D i ≤ 255)) (va : Hid (-9223372036854775808 ≤ av ∧ av ≤ 9223372036854775807)) (hav : Hid (C.av = wrap64 (av.tdiv 2))) (hmh : Hid (C.mh = wrap64 (mn.tdiv 2))) (HN : Hid (n = 0)) :
    Calls Try.prog 3 #[.int .i64 mn, .int .i64 av, .int .i64 mx, .agg G, .agg S, .agg #[.int .u64 C.m0, .int .u64 C.m1], .int .i64 k0, .int .u64 h0, .slice none n 0] w fun e w' => e = .returned (.bool true) ∧ Below w.heap.size w w' := by
  have H3 := hide (three w (.cells G 23) (.cells S 23) (.cells #[.int .u64 C.m0, .int .u64 C.m1] 24))
  go_enter Try.func3, Try.ntmps3
  go_wp2_with (first | (refine wpList_load_row rfl 23 (.tmp 12) rfl w.heap.size rfl 23 G (0, 0) _ H3.out.1 Try.underlying23 rfl (by rw [hG.out]; exact info23) ?_) | (refine wpList_load_row rfl 23 (.tmp 13) rfl (w.heap.size + 1) rfl 23 S (0, 0) _ H3.out.2.1 Try.underlying23 rfl (by rw [hS.out]; exact info23) ?_))
  refine (bytes_yes _ _ _ _ _ _ _ _ _ _ _ _ hn).mono ?_
  rintro e w2 ⟨rfl, hb⟩
  obtain ⟨t0, t1, t2, t3, t4⟩ := H3.out
  have u0 := (hb.block _ (by rw [t4]; omega)).trans t0
  have u1 := (hb.block _ (by rw [t4]; omega)).trans t1
  have u2 := (hb.block _ (by rw [t4]; omega)).trans t2
  have B2 := hide (t3.trans (hb.mono (by rw [t4]; omega)))
  have Z2 : w.heap.size + 1 + 1 + 1 ≤ w2.heap.size := by have := hb.size; rw [t4] at this; exact this
  clear hb t0 t1 t2 t3 t4 H3
  have hne := fun w => run_neq_slice_nil_any (P := Try.prog) w 25 5 none n 0 0 0 Try.underlying25
  obtain ⟨X, hX⟩ : ∃ X, X = w2 := ⟨_, rfl⟩
  subst hX
  have U0 := hide u0
  have U1 := hide u1
  have U2 := hide u2
  have BX := B2
  have HD : Hid (Bytes X 0 n C.D) := fun i hi => by have := HN.out; omega
  clear u0 u1 u2 B2
  have c0 := cell_of_row X (w.heap.size + 1 + 1) 0 _ _ _ U2.out
  have c1 := cell_of_row X (w.heap.size + 1 + 1) 1 _ _ _ U2.out
  simp only [List.getElem?_toArray, List.getElem?_cons_zero, List.getElem?_cons_succ] at c0 c1
  go_wp2_with (first | (refine wpList_load_row rfl 23 (.tmp 12) rfl w.heap.size rfl 23 G (0, 0) _ U0.out Try.underlying23 rfl (by rw [hG.out]; exact info23) ?_) | (refine wpList_load_row rfl 23 (.tmp 13) rfl (w.heap.size + 1) rfl 23 S (0, 0) _ U1.out Try.underlying23 rfl (by rw [hS.out]; exact info23) ?_))
  refine (zz_any C 0 n 0 k0 none mn av mx h0 G S X hG hS gc sc hn hk0m (fun h => absurd HN.out (Nat.pos_iff_ne_zero.1 h)) hr va hav hmh HD).mono ?_
  rintro e w5 ⟨rfl, hb5⟩
  have v0 := hide ((hb5.block _ (by omega)).trans U0.out)
  have v1 := hide ((hb5.block _ (by omega)).trans U1.out)
  have v2 := hide ((hb5.block _ (by omega)).trans U2.out)
  have HD5 : Hid (Bytes w5 0 n C.D) := fun i hi => by
    have := HD.out i hi
    exact (hb5.cell (block_lt_of_cell this)).trans this
  have B5 := hide (BX.out.trans (hb5.mono (by omega)))
  obtain ⟨r, hr'⟩ : ∃ r, r = scan C (n / 2 - k0) k0 h0 := ⟨_, rfl⟩
  rw [← hr']
  have HR := hide hr'
  clear hr' hb5
  unfold tup4
  go_wp2_with fail
  have hmod : Calls Try.prog 7 #[.int .i64 mn, .int .i64 av, .pointer (some ⟨w.heap.size, 0, none⟩), .pointer (some ⟨w.heap.size + 1, 0, none⟩), .pointer (some ⟨w.heap.size + 1 + 1, 0, none⟩), .int .i64 k0, .int .u64 h0, .slice none n 0] w5 fun e w' => e = .returned (tup5 r) ∧ ∃ q, w' = w5.drewN q := by
    rw [HR.out]
    by_cases hk : k0 < n / 2
    · exact absurd HN.out (by omega)
    · exact model_idle C mn av h0 k0 n 0 none _ _ _ w5 hn (by omega) hk0m
  refine hmod.mono ?_
  clear hmod
  rintro e w6 ⟨rfl, q, rfl⟩
  unfold tup5
  clear HR HD HD5 U0 U1 U2 v0 v1 v2
  go_wp2
  go_ret
  exact ⟨rfl, below_drewN B5.out _⟩

end Go.Proofs.Qxb6618451a
