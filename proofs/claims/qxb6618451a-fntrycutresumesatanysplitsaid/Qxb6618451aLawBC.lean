/-
  THE WALK of FnTryCutResumesAtAnySplit: data that is not nil.
-/
import Derived.Test.Qxb6618451aLawB
namespace Go.Proofs.Qxb6618451a
open Go.RowKit

set_option maxRecDepth 20000 in
set_option maxHeartbeats 2000000 in
theorem lawB_copy (C : Ctx) (n cap k0 p : Nat) (x : Addr) (zs : List Int) (mn av mx h0 : Int) (G S : Array Value) (w : World) (hG : Hid (G.size = 256)) (hS : Hid (S.size = 256)) (gc : Hid (∀ i, i < 256 → G[i]? = some (.int .u64 (C.g i)))) (sc : Hid (∀ i, i < 256 → S[i]? = some (.int .u64 (C.s i))))
    (hn : n ≤ 1048576) (hk0m : k0 ≤ 9223372036854775807) (l0 : 0 ≤ h0) (l1 : h0 < 18446744073709551616) (hr : Hid (∀ i, 0 ≤ C.D i ∧ C.D i ≤ 255)) (va : Hid (-9223372036854775808 ≤ av ∧ av ≤ 9223372036854775807)) (hav : Hid (C.av = wrap64 (av.tdiv 2))) (hmh : Hid (C.mh = wrap64 (mn.tdiv 2)))
    (hz : n ≤ zs.length) (hcell : Hid (∀ i, i < zs.length → w.cell? (x.add i) = some (.int .u8 (zs.getD i 0)))) (hCD : Hid (C.D = (zs.getD · 0))) (hp : p ≤ n) :
    Calls Try.prog 4 #[.int .i64 mn, .int .i64 av, .int .i64 mx, .agg G, .agg S, .agg #[.int .u64 C.m0, .int .u64 C.m1], .int .i64 k0, .int .u64 h0, .slice (some x) n cap, .int .i64 p] w fun e w' => e = .returned (.bool true) ∧ Below w.heap.size w w' := by
  have hd : decide ((p : Int) < 0) = false := decide_eq_false (by omega)
  have hd2 : decide ((n : Int) < (p : Int)) = false := decide_eq_false (by omega)
  have H3 := hide (three w (.cells G 23) (.cells S 23) (.cells #[.int .u64 C.m0, .int .u64 C.m1] 24))
  go_enter Try.func4, Try.ntmps4
  go_wp2_with (first | (refine wpList_load_row rfl 23 (.tmp 13) rfl w.heap.size rfl 23 G (0, 0) _ H3.out.1 Try.underlying23 rfl (by rw [hG.out]; exact info23) ?_) | (refine wpList_load_row rfl 23 (.tmp 14) rfl (w.heap.size + 1) rfl 23 S (0, 0) _ H3.out.2.1 Try.underlying23 rfl (by rw [hS.out]; exact info23) ?_))
  refine (bytesB_yes _ _ _ _ _ _ _ _ _ _ _ _ _ hn).mono ?_
  rintro e w2 ⟨rfl, hb⟩
  obtain ⟨t0, t1, t2, t3, t4⟩ := H3.out
  have u0 := (hb.block _ (by rw [t4]; omega)).trans t0
  have u1 := (hb.block _ (by rw [t4]; omega)).trans t1
  have u2 := (hb.block _ (by rw [t4]; omega)).trans t2
  have B2 := hide (t3.trans (hb.mono (by rw [t4]; omega)))
  have Z2 : w.heap.size + 1 + 1 + 1 ≤ w2.heap.size := by have := hb.size; rw [t4] at this; exact this
  clear hb t0 t1 t2 t3 t4 H3
  have hne := fun w => run_neq_slice_nil_any (P := Try.prog) w 25 5 (some x) n cap 0 0 Try.underlying25
  have hmk := made n hn
  have hc2 : ∀ i, i < zs.length → w2.cell? (x.add i) = some (.int .u8 (zs.getD i 0)) := fun i hi => by
    have := hcell.out i hi
    exact (B2.out.cell (block_lt_of_cell this)).trans this
  obtain ⟨X, hcp, hby, hbX, hlt⟩ := copied x n cap zs w2 hz hc2
  have U0 := hide ((hbX.block _ (by omega)).trans u0)
  have U1 := hide ((hbX.block _ (by omega)).trans u1)
  have U2 := hide ((hbX.block _ (by omega)).trans u2)
  have BX := hide (B2.out.trans (hbX.mono (by omega)))
  have HD : Hid (Bytes X w2.heap.size n C.D) := by rw [hCD.out]; exact hby
  have HDP : Hid (Bytes X w2.heap.size p C.D) := fun i hi => HD.out i (by omega)
  have ZX : w.heap.size + 1 + 1 + 1 ≤ X.heap.size := by omega
  clear hc2 hby hbX u0 u1 u2 B2
  have c0 := cell_of_row X (w.heap.size + 1 + 1) 0 _ _ _ U2.out
  have c1 := cell_of_row X (w.heap.size + 1 + 1) 1 _ _ _ U2.out
  simp only [List.getElem?_toArray, List.getElem?_cons_zero, List.getElem?_cons_succ] at c0 c1
  go_wp2_with (first | (refine wpList_load_row rfl 23 (.tmp 13) rfl w.heap.size rfl 23 G (0, 0) _ U0.out Try.underlying23 rfl (by rw [hG.out]; exact info23) ?_) | (refine wpList_load_row rfl 23 (.tmp 14) rfl (w.heap.size + 1) rfl 23 S (0, 0) _ U1.out Try.underlying23 rfl (by rw [hS.out]; exact info23) ?_))
  refine (zz_any C w2.heap.size p n k0 (some ⟨w2.heap.size, 0, none⟩) mn av mx h0 G S X hG hS gc sc (by omega) hk0m (fun _ => rfl) hr va hav hmh HDP).mono ?_
  rintro e w5 ⟨rfl, hb5⟩
  have v0 := hide ((hb5.block _ (by omega)).trans U0.out)
  have v1 := hide ((hb5.block _ (by omega)).trans U1.out)
  have v2 := hide ((hb5.block _ (by omega)).trans U2.out)
  have HD5 : Hid (Bytes w5 w2.heap.size n C.D) := fun i hi => by
    have := HD.out i hi
    exact (hb5.cell (block_lt_of_cell this)).trans this
  have B5 := hide (BX.out.trans (hb5.mono (by omega)))
  have Z5 : w.heap.size + 1 + 1 + 1 ≤ w5.heap.size := by have := hb5.size; omega
  obtain ⟨r1, hr1⟩ : ∃ r1, r1 = scan C (p / 2 - k0) k0 h0 := ⟨_, rfl⟩
  rw [← hr1]
  have HR1 := hide hr1
  clear hr1 hb5 U0 U1 U2 BX HD HDP c0 c1
  unfold tup4
  go_wp2_with fail
  have hmod : Calls Try.prog 7 #[.int .i64 mn, .int .i64 av, .pointer (some ⟨w.heap.size, 0, none⟩), .pointer (some ⟨w.heap.size + 1, 0, none⟩), .pointer (some ⟨w.heap.size + 1 + 1, 0, none⟩), .int .i64 k0, .int .u64 h0, .slice (some ⟨w2.heap.size, 0, none⟩) p n] w5 fun e w' => e = .returned (tup5 r1) ∧ ∃ q, w' = w5.drewN q := by
    rw [HR1.out]
    by_cases hk : k0 < p / 2
    · refine model_any C mn av h0 k0 w2.heap.size p n w.heap.size (w.heap.size + 1) (w.heap.size + 1 + 1) w5 (by omega) hk l0 l1 (fun i hi => HD5.out i (by omega)) hr ?_ ?_ ((cell_of_row w5 _ 0 _ _ _ v2.out).trans rfl) ((cell_of_row w5 _ 1 _ _ _ v2.out).trans rfl) hav hmh
      · exact fun i hi => by rw [Nat.zero_add]; exact (cell_of_row w5 _ i _ _ _ v0.out).trans (gc.out i hi)
      · exact fun i hi => by rw [Nat.zero_add]; exact (cell_of_row w5 _ i _ _ _ v1.out).trans (sc.out i hi)
    · exact model_idle C mn av h0 k0 p n _ _ _ _ w5 (by omega) (by omega) hk0m
  refine hmod.mono ?_
  clear hmod
  rintro e w6 ⟨rfl, q, hw6⟩
  unfold tup5
  have B6 := hide (show Below w.heap.size w w6 by rw [hw6]; exact below_drewN B5.out _)
  have x0 := hide (show w6.heap[w.heap.size]? = some (.cells G 23 (0, 0)) by rw [hw6]; exact v0.out)
  have x1 := hide (show w6.heap[w.heap.size + 1]? = some (.cells S 23 (0, 0)) by rw [hw6]; exact v1.out)
  have x2 : w6.heap[w.heap.size + 1 + 1]? = some (.cells #[.int .u64 C.m0, .int .u64 C.m1] 24 (0, 0)) := by rw [hw6]; exact v2.out
  have HD6 : Hid (Bytes w6 w2.heap.size n C.D) := by rw [hw6]; exact HD5
  have Z6 : w.heap.size + 1 + 1 + 1 ≤ w6.heap.size := by rw [hw6]; exact Z5
  have c0 := cell_of_row w6 (w.heap.size + 1 + 1) 0 _ _ _ x2
  have c1 := cell_of_row w6 (w.heap.size + 1 + 1) 1 _ _ _ x2
  simp only [List.getElem?_toArray, List.getElem?_cons_zero, List.getElem?_cons_succ] at c0 c1
  have X2 := hide x2
  clear hw6 v0 v1 v2 B5 HD5 Z5 x2
  go_wp2_with (first | (refine wpList_load_row rfl 23 (.tmp 13) rfl w.heap.size rfl 23 G (0, 0) _ x0.out Try.underlying23 rfl (by rw [hG.out]; exact info23) ?_) | (refine wpList_load_row rfl 23 (.tmp 14) rfl (w.heap.size + 1) rfl 23 S (0, 0) _ x1.out Try.underlying23 rfl (by rw [hS.out]; exact info23) ?_))
  refine (zz_any C w2.heap.size n n k0 (some ⟨w2.heap.size, 0, none⟩) mn av mx h0 G S w6 hG hS gc sc (by omega) hk0m (fun _ => rfl) hr va hav hmh HD6).mono ?_
  rintro e w7 ⟨rfl, hb7⟩
  have y0 := hide ((hb7.block _ (by omega)).trans x0.out)
  have y1 := hide ((hb7.block _ (by omega)).trans x1.out)
  have y2 := (hb7.block _ (by omega)).trans X2.out
  have HD7 : Hid (Bytes w7 w2.heap.size n C.D) := fun i hi => by
    have := HD6.out i hi
    exact (hb7.cell (block_lt_of_cell this)).trans this
  have B7 := hide (B6.out.trans (hb7.mono (by omega)))
  have Z7 : w.heap.size + 1 + 1 + 1 ≤ w7.heap.size := by have := hb7.size; omega
  have d0 := cell_of_row w7 (w.heap.size + 1 + 1) 0 _ _ _ y2
  have d1 := cell_of_row w7 (w.heap.size + 1 + 1) 1 _ _ _ y2
  simp only [List.getElem?_toArray, List.getElem?_cons_zero, List.getElem?_cons_succ] at d0 d1
  obtain ⟨r3, hr3⟩ : ∃ r3, r3 = scan C (n / 2 - k0) k0 h0 := ⟨_, rfl⟩
  rw [← hr3]
  clear hb7 x0 x1 X2 B6 HD6 c0 c1 y2
  have hsum : n / 2 - k0 = (p / 2 - k0) + (n / 2 - (k0 + (p / 2 - k0))) := by omega
  cases hc : r1.cut with
  | true =>
    obtain rfl : r1 = r3 := by
      rw [hr3, HR1.out, hsum, scan_cut C _ _ _ _ (by rw [← HR1.out]; exact hc)]
    clear hr3 hsum HR1 HD7 y0 y1
    unfold tup4
    go_wp2
    go_ret
    exact ⟨rfl, B7.out⟩
  | false =>
    obtain ⟨hk1, hmore⟩ := scan_more C (p / 2 - k0) (n / 2 - (k0 + (p / 2 - k0))) k0 h0 (by rw [← HR1.out]; exact hc)
    rw [← HR1.out] at hk1 hmore
    rw [← hsum, ← hr3] at hmore
    obtain ⟨k1, hkk⟩ : ∃ k1 : Nat, k1 = k0 + (p / 2 - k0) := ⟨_, rfl⟩
    rw [← hkk] at hk1 hmore
    have hk1m : k1 ≤ 9223372036854775807 := by omega
    have HM := hide hmore
    clear hr3 hsum hmore hkk
    unfold tup4
    go_wp2_with (first | (refine wpList_load_row rfl 23 (.tmp 13) rfl w.heap.size rfl 23 G (0, 0) _ y0.out Try.underlying23 rfl (by rw [hG.out]; exact info23) ?_) | (refine wpList_load_row rfl 23 (.tmp 14) rfl (w.heap.size + 1) rfl 23 S (0, 0) _ y1.out Try.underlying23 rfl (by rw [hS.out]; exact info23) ?_))
    refine (zz_any C w2.heap.size n n k1 (some ⟨w2.heap.size, 0, none⟩) mn av mx r1.h G S w7 hG hS gc sc (by omega) hk1m (fun _ => rfl) hr va hav hmh HD7).mono ?_
    rintro e w8 ⟨rfl, hb8⟩
    rw [← HM.out]
    have B8 := hide (B7.out.trans (hb8.mono (by omega)))
    clear hb8 HR1 HD7 y0 y1 HM B7 d0 d1
    unfold tup4
    go_wp2
    go_ret
    exact ⟨rfl, B8.out⟩

end Go.Proofs.Qxb6618451a
