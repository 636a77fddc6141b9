/-
  THE WALK of FnTryCutMatchesWindowModel.
-/
import Derived.Test.Qxb6618451aZZ
import Derived.Test.Qxb6618451aModel
import Derived.Laws.CopyOwn
namespace Go.Proofs.Qxb6618451a
open Go.RowKit

theorem info5 : (Try.prog.info? 5).map (fun i => (i.zero, i.size, i.bytes)) = some (some (.int .u8 0), 1, 1) := by kernel_rfl

/-- The zeroes that 'make' lays. -/
def blank (n : Nat) : Array Value := madeCells (Value.int .u8 0).cells n

theorem made (len : Nat) (hl : len ≤ 1048576) (w : World) : (Instr.makeSlice 25 (.int .i64 (len : Int)) (.int .i64 (len : Int))).run Try.prog w = .ok (.slice (some ⟨w.heap.size, 0, none⟩) len len) (w.alloc (.cells (blank len) 5)) := by
  obtain ⟨i0, hi, hz0, hz1, hz2⟩ := info_parts info5
  have hmk := run_make (P := Try.prog) w 25 5 i0 (.int .u8 0) Try.underlying25 hi hz0 .i64 .i64 (len : Int) (len : Int) (by omega) (by omega) (by rw [hz2]; omega) (by omega)
  simp only [Int.toNat_natCast, hz1, Nat.mul_one] at hmk
  exact hmk

/-- 'copy(zzc, data)': the copy's cells are the bytes; nothing old has turned. -/
theorem copied (x : Addr) (len cap : Nat) (zs : List Int) (w : World) (hlc : len ≤ zs.length) (hcell : ∀ i, i < zs.length → w.cell? (x.add i) = some (.int .u8 (zs.getD i 0))) :
    ∃ W1, (∀ ty, (Builtin.copy_ #[25, 25] ty #[.slice (some ⟨w.heap.size, 0, none⟩) len len, .slice (some x) len cap]).run Try.prog (w.alloc (.cells (blank len) 5)) = .ok (.int .i64 (len : Int)) W1) ∧
      Bytes W1 w.heap.size len (zs.getD · 0) ∧ Below w.heap.size w W1 ∧ w.heap.size < W1.heap.size := by
  have hlen : ((zs.take len).map (Value.int .u8)).length = len := by simp; omega
  have hin := fun ty => run_copy_row (P := Try.prog) (w.alloc (.cells (blank len) 5)) 25 25 ty 5 w.heap.size 0 len len x len cap (blank len) 5 ((zs.take len).map (Value.int .u8)) Try.underlying25 (by kernel_rfl) (heap_alloc_new w _) (by rw [hlen]; simp) (by
      intro j v hj
      have hjl : j < len := by
        have := (List.getElem?_eq_some_iff.1 hj).1; omega
      have hold : w.cell? (x.add j) = some (.int .u8 (zs.getD j 0)) := hcell j (by omega)
      have hlt : (x.add j).block < w.heap.size := block_lt_of_cell hold
      rw [World.cell?_alloc_lt _ _ _ hlt, hold]
      rw [← hj]
      simp [hjl, List.getElem?_eq_getElem (show j < zs.length by omega)]) (by rw [hlen]; simp [blank, size_madeCells]) (ints_oneCell _ _)
  rw [hlen] at hin
  refine ⟨_, hin, ?_, ?_, ?_⟩
  · intro j hjl
    rw [cell_setRow_same _ _ _ _ _ _ _ (heap_alloc_new w _)]
    simp [List.getElem?_append, hjl, List.getElem?_eq_getElem (show j < zs.length by omega)]
    omega
  · exact below_setRow ((Below.refl _ _).alloc (Nat.le_refl _) _) (Nat.le_refl _) _
  · simp [World.setRow]

set_option maxRecDepth 20000 in
set_option maxHeartbeats 1000000 in
theorem bytes_yes (a : Option Addr) (n cap : Nat) (mn av mx st h0 : Int) (G S M : Array Value) (w : World) (hl : n ≤ 1048576) :
    Calls Try.prog 5 #[.int .i64 mn, .int .i64 av, .int .i64 mx, .agg G, .agg S, .agg M, .int .i64 st, .int .u64 h0, .slice a n cap] w fun e w' => e = .returned (.bool true) ∧ Below w.heap.size w w' := by
  go_enter Try.func5, Try.ntmps5
  go_wp2
  go_ret
  exact ⟨rfl, (((Below.refl _ _).alloc (Nat.le_refl _) _).alloc (by simp) _).alloc (by simp; omega) _⟩

set_option maxRecDepth 20000 in
set_option maxHeartbeats 1000000 in
theorem bytes_no (a : Option Addr) (n cap : Nat) (mn av mx st h0 : Int) (G S M : Array Value) (w : World) (hm : n ≤ maxLen) (hl : 1048576 < n) :
    Calls Try.prog 5 #[.int .i64 mn, .int .i64 av, .int .i64 mx, .agg G, .agg S, .agg M, .int .i64 st, .int .u64 h0, .slice a n cap] w fun e w' => e = .returned (.bool false) ∧ Below w.heap.size w w' := by
  unfold maxLen at hm
  go_enter Try.func5, Try.ntmps5
  go_wp2
  go_ret
  exact ⟨rfl, (((Below.refl _ _).alloc (Nat.le_refl _) _).alloc (by simp) _).alloc (by simp; omega) _⟩

/-- The three boxes that hold the arrays. -/
theorem three (w : World) (o0 o1 o2 : Obj) :
    (((w.alloc o0).alloc o1).alloc o2).heap[w.heap.size]? = some o0 ∧ (((w.alloc o0).alloc o1).alloc o2).heap[w.heap.size + 1]? = some o1 ∧ (((w.alloc o0).alloc o1).alloc o2).heap[w.heap.size + 1 + 1]? = some o2 ∧
      Below w.heap.size w (((w.alloc o0).alloc o1).alloc o2) ∧ (((w.alloc o0).alloc o1).alloc o2).heap.size = w.heap.size + 1 + 1 + 1 := by
  refine ⟨?_, ?_, ?_, ?_, by simp⟩
  · rw [Below.heap_alloc _ _ _ (by simp; omega), Below.heap_alloc _ _ _ (by simp)]; exact heap_alloc_new w _
  · rw [Below.heap_alloc _ _ _ (by simp)]
    have := heap_alloc_new (w.alloc o0) o1
    simpa using this
  · have := heap_alloc_new ((w.alloc o0).alloc o1) o2
    simpa using this
  · exact (((Below.refl _ _).alloc (Nat.le_refl _) _).alloc (by simp) _).alloc (by simp; omega) _

set_option maxRecDepth 20000 in
set_option maxHeartbeats 1000000 in
theorem lawA_long (a : Option Addr) (n cap : Nat) (mn av mx st h0 : Int) (G S : Array Value) (m0 m1 : Int) (w : World) (hG : Hid (G.size = 256)) (hS : Hid (S.size = 256)) (hm : n ≤ maxLen) (hl : 1048576 < n) :
    Calls Try.prog 3 #[.int .i64 mn, .int .i64 av, .int .i64 mx, .agg G, .agg S, .agg #[.int .u64 m0, .int .u64 m1], .int .i64 st, .int .u64 h0, .slice a n cap] w fun e w' => e = .returned (.bool true) ∧ Below w.heap.size w w' := by
  have H3 := hide (three w (.cells G 23) (.cells S 23) (.cells #[.int .u64 m0, .int .u64 m1] 24))
  go_enter Try.func3, Try.ntmps3
  go_wp2_with (first | (refine wpList_load_row rfl 23 (.tmp 12) rfl w.heap.size rfl 23 G (0, 0) _ H3.out.1 Try.underlying23 rfl (by rw [hG.out]; exact info23) ?_) | (refine wpList_load_row rfl 23 (.tmp 13) rfl (w.heap.size + 1) rfl 23 S (0, 0) _ H3.out.2.1 Try.underlying23 rfl (by rw [hS.out]; exact info23) ?_))
  refine (bytes_no _ _ _ _ _ _ _ _ _ _ _ _ hm hl).mono ?_
  rintro e w2 ⟨rfl, hb⟩
  go_wp2
  go_ret
  exact ⟨rfl, H3.out.2.2.2.1.trans (hb.mono (by rw [H3.out.2.2.2.2]; omega))⟩

set_option maxRecDepth 20000 in
set_option maxHeartbeats 1000000 in
theorem lawA_neg (a : Option Addr) (n cap : Nat) (mn av mx st h0 : Int) (G S : Array Value) (C : Ctx) (w : World) (hG : Hid (G.size = 256)) (hS : Hid (S.size = 256)) (hn : n ≤ 1048576) (hst : st < 0) :
    Calls Try.prog 3 #[.int .i64 mn, .int .i64 av, .int .i64 mx, .agg G, .agg S, .agg #[.int .u64 C.m0, .int .u64 C.m1], .int .i64 st, .int .u64 h0, .slice a n cap] w fun e w' => e = .returned (.bool true) ∧ Below w.heap.size w w' := by
  have H3 := hide (three w (.cells G 23) (.cells S 23) (.cells #[.int .u64 C.m0, .int .u64 C.m1] 24))
  go_enter Try.func3, Try.ntmps3
  go_wp2_with (first | (refine wpList_load_row rfl 23 (.tmp 12) rfl w.heap.size rfl 23 G (0, 0) _ H3.out.1 Try.underlying23 rfl (by rw [hG.out]; exact info23) ?_) | (refine wpList_load_row rfl 23 (.tmp 13) rfl (w.heap.size + 1) rfl 23 S (0, 0) _ H3.out.2.1 Try.underlying23 rfl (by rw [hS.out]; exact info23) ?_))
  refine (bytes_yes _ _ _ _ _ _ _ _ _ _ _ _ hn).mono ?_
  rintro e w2 ⟨rfl, hb⟩
  obtain ⟨t0, t1, t2, t3, t4⟩ := H3.out
  have u0 := (hb.block _ (by rw [t4]; omega)).trans t0
  have u1 := (hb.block _ (by rw [t4]; omega)).trans t1
  have u2 := (hb.block _ (by rw [t4]; omega)).trans t2
  have B2 := hide (t3.trans (hb.mono (by rw [t4]; omega)))
  have Z2 : w.heap.size + 1 + 1 + 1 ≤ w2.heap.size := by have := hb.size; rw [t4] at this; exact this
  clear hb t0 t1 t2 t3 t4 H3
  go_wp2
  go_ret
  exact ⟨rfl, B2.out⟩

set_option maxRecDepth 20000 in
set_option maxHeartbeats 2000000 in
theorem lawA_copy (C : Ctx) (n cap k0 : Nat) (x : Addr) (zs : List Int) (mn av mx h0 : Int) (G S : Array Value) (w : World) (hG : Hid (G.size = 256)) (hS : Hid (S.size = 256)) (gc : Hid (∀ i, i < 256 → G[i]? = some (.int .u64 (C.g i)))) (sc : Hid (∀ i, i < 256 → S[i]? = some (.int .u64 (C.s i))))
    (hn : n ≤ 1048576) (hk0m : k0 ≤ 9223372036854775807) (l0 : 0 ≤ h0) (l1 : h0 < 18446744073709551616) (hr : Hid (∀ i, 0 ≤ C.D i ∧ C.D i ≤ 255)) (va : Hid (-9223372036854775808 ≤ av ∧ av ≤ 9223372036854775807)) (hav : Hid (C.av = wrap64 (av.tdiv 2))) (hmh : Hid (C.mh = wrap64 (mn.tdiv 2)))
    (hz : n ≤ zs.length) (hcell : Hid (∀ i, i < zs.length → w.cell? (x.add i) = some (.int .u8 (zs.getD i 0)))) (hCD : Hid (C.D = (zs.getD · 0))) :
    Calls Try.prog 3 #[.int .i64 mn, .int .i64 av, .int .i64 mx, .agg G, .agg S, .agg #[.int .u64 C.m0, .int .u64 C.m1], .int .i64 k0, .int .u64 h0, .slice (some x) n cap] w fun e w' => e = .returned (.bool true) ∧ Below w.heap.size w w' := by
  have H3 := hide (three w (.cells G 23) (.cells S 23) (.cells #[.int .u64 C.m0, .int .u64 C.m1] 24))
  go_enter Try.func3, Try.ntmps3
  go_wp2_with (first | (refine wpList_load_row rfl 23 (.tmp 12) rfl w.heap.size rfl 23 G (0, 0) _ H3.out.1 Try.underlying23 rfl (by rw [hG.out]; exact info23) ?_) | (refine wpList_load_row rfl 23 (.tmp 13) rfl (w.heap.size + 1) rfl 23 S (0, 0) _ H3.out.2.1 Try.underlying23 rfl (by rw [hS.out]; exact info23) ?_))
  refine (bytes_yes _ _ _ _ _ _ _ _ _ _ _ _ hn).mono ?_
  rintro e w2 ⟨rfl, hb⟩
  obtain ⟨t0, t1, t2, t3, t4⟩ := H3.out
  have u0 := (hb.block _ (by rw [t4]; omega)).trans t0
  have u1 := (hb.block _ (by rw [t4]; omega)).trans t1
  have u2 := (hb.block _ (by rw [t4]; omega)).trans t2
  have B2 := hide (t3.trans (hb.mono (by rw [t4]; omega)))
  have Z2 : w.heap.size + 1 + 1 + 1 ≤ w2.heap.size := by have := hb.size; rw [t4] at this; exact this
  clear hb t0 t1 t2 t3 t4 H3
  have hne := fun w => run_neq_slice_nil_any (P := Try.prog) w 25 5 (some x) n cap 0 0 Try.underlying25
  have hmk := made n hn
  have hc2 : ∀ i, i < zs.length → w2.cell? (x.add i) = some (.int .u8 (zs.getD i 0)) := fun i hi => by
    have := hcell.out i hi
    exact (B2.out.cell (block_lt_of_cell this)).trans this
  obtain ⟨X, hcp, hby, hbX, hlt⟩ := copied x n cap zs w2 hz hc2
  have U0 := hide ((hbX.block _ (by omega)).trans u0)
  have U1 := hide ((hbX.block _ (by omega)).trans u1)
  have U2 := hide ((hbX.block _ (by omega)).trans u2)
  have BX := hide (B2.out.trans (hbX.mono (by omega)))
  have HD : Hid (Bytes X w2.heap.size n C.D) := by rw [hCD.out]; exact hby
  have ZX : w.heap.size + 1 + 1 + 1 ≤ X.heap.size := by omega
  have b0 := cell_of_row w2 (w.heap.size + 1 + 1) 0 _ _ _ u2
  clear hc2 hby hbX u0 u1 u2 B2
  have c0 := cell_of_row X (w.heap.size + 1 + 1) 0 _ _ _ U2.out
  have c1 := cell_of_row X (w.heap.size + 1 + 1) 1 _ _ _ U2.out
  simp only [List.getElem?_toArray, List.getElem?_cons_zero, List.getElem?_cons_succ] at c0 c1
  go_wp2_with (first | (refine wpList_load_row rfl 23 (.tmp 12) rfl w.heap.size rfl 23 G (0, 0) _ U0.out Try.underlying23 rfl (by rw [hG.out]; exact info23) ?_) | (refine wpList_load_row rfl 23 (.tmp 13) rfl (w.heap.size + 1) rfl 23 S (0, 0) _ U1.out Try.underlying23 rfl (by rw [hS.out]; exact info23) ?_))
  refine (zz_any C w2.heap.size n n k0 (some ⟨w2.heap.size, 0, none⟩) mn av mx h0 G S X hG hS gc sc hn hk0m (fun _ => rfl) hr va hav hmh HD).mono ?_
  rintro e w5 ⟨rfl, hb5⟩
  have v0 := hide ((hb5.block _ (by omega)).trans U0.out)
  have v1 := hide ((hb5.block _ (by omega)).trans U1.out)
  have v2 := hide ((hb5.block _ (by omega)).trans U2.out)
  have HD5 : Hid (Bytes w5 w2.heap.size n C.D) := fun i hi => by
    have := HD.out i hi
    exact (hb5.cell (block_lt_of_cell this)).trans this
  have B5 := hide (BX.out.trans (hb5.mono (by omega)))
  obtain ⟨r, hr'⟩ : ∃ r, r = scan C (n / 2 - k0) k0 h0 := ⟨_, rfl⟩
  rw [← hr']
  have HR := hide hr'
  clear hr' hb5
  unfold tup4
  go_wp2_with fail
  have hmod : Calls Try.prog 7 #[.int .i64 mn, .int .i64 av, .pointer (some ⟨w.heap.size, 0, none⟩), .pointer (some ⟨w.heap.size + 1, 0, none⟩), .pointer (some ⟨w.heap.size + 1 + 1, 0, none⟩), .int .i64 k0, .int .u64 h0, .slice (some ⟨w2.heap.size, 0, none⟩) n n] w5 fun e w' => e = .returned (tup5 r) ∧ ∃ q, w' = w5.drewN q := by
    rw [HR.out]
    by_cases hk : k0 < n / 2
    · refine model_any C mn av h0 k0 w2.heap.size n n w.heap.size (w.heap.size + 1) (w.heap.size + 1 + 1) w5 hn hk l0 l1 HD5 hr ?_ ?_ ((cell_of_row w5 _ 0 _ _ _ v2.out).trans rfl) ((cell_of_row w5 _ 1 _ _ _ v2.out).trans rfl) hav hmh
      · exact fun i hi => by rw [Nat.zero_add]; exact (cell_of_row w5 _ i _ _ _ v0.out).trans (gc.out i hi)
      · exact fun i hi => by rw [Nat.zero_add]; exact (cell_of_row w5 _ i _ _ _ v1.out).trans (sc.out i hi)
    · exact model_idle C mn av h0 k0 n n (some ⟨w2.heap.size, 0, none⟩) _ _ _ w5 hn (by omega) hk0m
  refine hmod.mono ?_
  clear hmod
  rintro e w6 ⟨rfl, q, rfl⟩
  unfold tup5
  clear HR HD HD5 U0 U1 U2 v0 v1 v2
  go_wp2
  go_ret
  exact ⟨rfl, below_drewN B5.out _⟩

end Go.Proofs.Qxb6618451a
