/-
  THE WALK of ZZTryCut.
-/
import Derived.Test.Qxb6618451aCut
import Derived.Test.Qxb6618451aBuild
namespace Go.Proofs.Qxb6618451a
open Go.RowKit

theorem hide {p : Prop} (h : p) : Hid p := h

theorem info23 : (Try.prog.info? 23).map (·.size) = some 256 := by kernel_rfl

theorem five (w : World) (o0 o1 o2 o3 o4 : Obj) :
    (((((w.alloc o0).alloc o1).alloc o2).alloc o3).alloc o4).heap[w.heap.size + 1 + 1 + 1]? = some o3 ∧ (((((w.alloc o0).alloc o1).alloc o2).alloc o3).alloc o4).heap[w.heap.size + 1 + 1 + 1 + 1]? = some o4 ∧
      Below w.heap.size w (((((w.alloc o0).alloc o1).alloc o2).alloc o3).alloc o4) := by
  refine ⟨?_, ?_, ?_⟩
  · rw [Below.heap_alloc _ _ _ (by simp)]
    have := heap_alloc_new (((w.alloc o0).alloc o1).alloc o2) o3
    simpa using this
  · have := heap_alloc_new ((((w.alloc o0).alloc o1).alloc o2).alloc o3) o4
    simpa using this
  · exact (((((Below.refl _ _).alloc (Nat.le_refl _) _).alloc (by simp) _).alloc (by simp; omega) _).alloc (by simp; omega) _).alloc (by simp; omega) _

/-- What the struct FastCDC2020 that ZZTryCut builds holds. -/
theorem built (C : Ctx) (mn av mx : Int) (G S : Array Value) (hG : G.size = 256) (hS : S.size = 256) (gc : ∀ i, i < 256 → G[i]? = some (.int .u64 (C.g i))) (sc : ∀ i, i < 256 → S[i]? = some (.int .u64 (C.s i))) :
    ∃ B : Array Value, (∀ w, (Instr.build 36 #[(0, .int .i64 mn), (1, .int .i64 av), (2, .int .i64 mx), (3, .agg G), (4, .agg S), (5, .agg #[.int .u64 C.m0, .int .u64 C.m1])]).run Try.prog w = .ok (.agg B) w) ∧
      B[0]? = some (.int .i64 mn) ∧ B[1]? = some (.int .i64 av) ∧ (∀ i, i < 256 → B[3 + i]? = some (.int .u64 (C.g i))) ∧ (∀ i, i < 256 → B[259 + i]? = some (.int .u64 (C.s i))) ∧
      B[515]? = some (.int .u64 C.m0) ∧ B[516]? = some (.int .u64 C.m1) := by
  obtain ⟨Z, hZ, hrun⟩ := zeroRun
  obtain ⟨_, f0, f1, f2, f3, f4, f5⟩ := cellsF_facts Z.cells hZ mn av mx G S (.int .u64 C.m0) (.int .u64 C.m1) hG hS
  exact ⟨_, fun w => build_run Z hZ hrun mn av mx G S _ hG hS rfl w, f0, f1, fun i hi => (f2 i hi).trans (gc i hi), fun i hi => (f3 i hi).trans (sc i hi), f4, f5⟩

theorem results_tmp4 {fn : Func} {t u v x : Tmp} (h : fn.results = #[.tmp t, .tmp u, .tmp v, .tmp x]) (tmps : Array Value) (P : Program) (w : World) :
    (results fn tmps).run P w = .ok (.tuple #[tmps.getD t undef, tmps.getD u undef, tmps.getD v undef, tmps.getD x undef]) w := by
  simp [results, h]

/-- The four results of ZZTryCut. -/
def tup4 (r : Out) : Value := .tuple #[.int .i64 r.n, .int .u64 r.fp, .int .i64 r.k, .int .u64 r.h]

set_option maxRecDepth 20000 in
set_option maxHeartbeats 1000000 in
theorem zz_any (C : Ctx) (bd n cap k0 : Nat) (a : Option Addr) (mn av mx h0 : Int) (G S : Array Value) (w : World) (hG : Hid (G.size = 256)) (hS : Hid (S.size = 256)) (gc : Hid (∀ i, i < 256 → G[i]? = some (.int .u64 (C.g i)))) (sc : Hid (∀ i, i < 256 → S[i]? = some (.int .u64 (C.s i))))
    (hn : n ≤ 1048576) (hk0m : k0 ≤ 9223372036854775807) (ha : Hid (0 < n → a = some ⟨bd, 0, none⟩)) (hr : Hid (∀ i, 0 ≤ C.D i ∧ C.D i ≤ 255)) (va : Hid (-9223372036854775808 ≤ av ∧ av ≤ 9223372036854775807)) (hav : Hid (C.av = wrap64 (av.tdiv 2))) (hmh : Hid (C.mh = wrap64 (mn.tdiv 2))) (hD : Hid (Bytes w bd n C.D)) :
    Calls Try.prog 6 #[.int .i64 mn, .int .i64 av, .int .i64 mx, .agg G, .agg S, .agg #[.int .u64 C.m0, .int .u64 C.m1], .int .i64 k0, .int .u64 h0, .slice a n cap] w fun e w' => e = .returned (tup4 (scan C (n / 2 - k0) k0 h0)) ∧ Below w.heap.size w w' := by
  have HHG : Hid (∀ o1 o2, (((w.alloc (.cells G 23)).alloc o1).alloc o2).heap[w.heap.size]? = some (.cells G 23 (0, 0))) := fun o1 o2 => by
    rw [Below.heap_alloc _ _ _ (by simp; omega), Below.heap_alloc _ _ _ (by simp)]; exact heap_alloc_new w _
  have HHS : Hid (∀ o0 o2, (((w.alloc o0).alloc (.cells S 23)).alloc o2).heap[w.heap.size + 1]? = some (.cells S 23 (0, 0))) := fun o0 o2 => by
    rw [Below.heap_alloc _ _ _ (by simp)]
    have := heap_alloc_new (w.alloc o0) (.cells S 23)
    simpa using this
  obtain ⟨B, hB0, hF0⟩ := built C mn av mx G S hG.out hS.out gc.out sc.out
  have hB := hide hB0
  have HF := hide hF0
  clear hB0 hF0
  go_enter Try.func6, Try.ntmps6
  go_wp2_with (first | (refine wpList_load_row rfl 23 (.tmp 12) rfl w.heap.size rfl 23 G (0, 0) _ (HHG.out _ _) Try.underlying23 rfl (by rw [hG.out]; exact info23) ?_) | (refine wpList_load_row rfl 23 (.tmp 13) rfl (w.heap.size + 1) rfl 23 S (0, 0) _ (HHS.out _ _) Try.underlying23 rfl (by rw [hS.out]; exact info23) ?_) | (refine wpList_build rfl 36 #[(0, .tmp 26), (1, .tmp 27), (2, .tmp 28), (3, .tmp 29), (4, .tmp 30), (5, .tmp 31)] rfl #[(0, .int .i64 mn), (1, .int .i64 av), (2, .int .i64 mx), (3, .agg G), (4, .agg S), (5, .agg #[.int .u64 C.m0, .int .u64 C.m1])] (by simp [Act.eval]) (.agg B) (hB.out _) ?_))
  have h5 := five w (.cells G 23) (.cells S 23) (.cells #[.int .u64 C.m0, .int .u64 C.m1] 24) (.cells B 36) (.cells #[.pointer (some ⟨w.heap.size + 1 + 1 + 1, 0, none⟩), .int .i64 k0, .int .u64 h0] 39)
  obtain ⟨W5, hW5⟩ : ∃ W5, W5 = ((((w.alloc (.cells G 23)).alloc (.cells S 23)).alloc (.cells #[.int .u64 C.m0, .int .u64 C.m1] 24)).alloc (.cells B 36)).alloc (.cells #[.pointer (some ⟨w.heap.size + 1 + 1 + 1, 0, none⟩), .int .i64 k0, .int .u64 h0] 39) := ⟨_, rfl⟩
  rw [← hW5]
  rw [← hW5] at h5
  obtain ⟨hF, hT, hBel⟩ := h5
  clear hW5
  have F := HF.out
  obtain ⟨p0, p1, p2, p3, p4, p5⟩ := F
  have hcF := fun j => cell_of_row W5 (w.heap.size + 1 + 1 + 1) j _ _ _ hF
  have hcT := fun j => cell_of_row W5 (w.heap.size + 1 + 1 + 1 + 1) j _ _ _ hT
  have hzT := fun j => frozen_of_row W5 (w.heap.size + 1 + 1 + 1 + 1) j _ _ hT
  refine (cut_any C (w.heap.size + 1 + 1 + 1 + 1) (w.heap.size + 1 + 1 + 1) bd n cap k0 a mn av h0 W5 hn hk0m ha.out hr va hav hmh ((hcT 0).trans rfl) ((hcT 1).trans rfl) ((hcT 2).trans rfl) (hzT 1) (hzT 2) ((hcF 0).trans p0) ((hcF 1).trans p1) ((hcF 515).trans p4) ((hcF 516).trans p5) ?_ ?_ ?_).mono ?_
  · intro i hi
    have := hD.out i hi
    exact (hBel.cell (block_lt_of_cell this)).trans this
  · exact fun i hi => (hcF (3 + i)).trans (p2 i hi)
  · exact fun i hi => (hcF (259 + i)).trans (p3 i hi)
  rintro e w6 ⟨rfl, q1, q2, hb6⟩
  obtain ⟨r, hr'⟩ : ∃ r, r = scan C (n / 2 - k0) k0 h0 := ⟨_, rfl⟩
  rw [← hr'] at q1 q2 ⊢
  have HR := hide hr'
  have HB6 := hide (hBel.trans (hb6.mono (by omega)))
  clear hr' hb6 hBel hF hT hcF hcT hzT p0 p1 p2 p3 p4 p5 HHG HHS hB HF
  go_wp2
  go_quiet (fail)
  go_wp2
  (try simp only [Exit.inBlock, Exit.then]); refine bodyPost_ret (results_tmp4 rfl _ _ _) rfl ?_
  exact ⟨by rw [← HR.out]; rfl, below_drewN HB6.out _⟩

end Go.Proofs.Qxb6618451a
