/-
  THE WALK of FnTopAgreesAlongPath.
-/
import Derived.Test.Qxb6618386aTop
import Derived.Laws.CopyOwn
namespace Go.Proofs.Qxb6618386a
open Go.RowKit

theorem info21 : (Try.prog.info? 21).map (fun i => (i.zero, i.size, i.bytes)) = some (some (.int .i32 0), 1, 4) := by kernel_rfl

/-- What is known of a slice of integers that came in: nil, or a row of cells. -/
def IsRow (k : IntKind) (w : World) (a : Option Addr) (len cap : Nat) (zs : List Int) : Prop :=
  (a = none ∧ len = 0 ∧ cap = 0 ∧ zs = []) ∨
  ∃ x, a = some x ∧ len ≤ cap ∧ cap ≤ maxLen ∧ zs.length = cap ∧ (∀ i, i < zs.length → w.cell? (x.add i) = some (.int k (zs.getD i 0))) ∧ ∀ n ∈ zs, (Lit.int k n).wf = true

set_option maxHeartbeats 400000 in
/-- Too long, or k out of its range, or u out of range in the nil slice. -/
theorem walk_long (a : Option Addr) (len cap : Nat) (a1 a2 a3 : Int) (w : World) (hm : len ≤ maxLen) (h : 262144 < len) :
    Calls Try.prog 3 #[.slice a len cap, .int .i64 a1, .int .i32 a2, .int .i64 a3] w fun e w' => e = .returned (.bool true) ∧ Below w.heap.size w w' := by
  unfold maxLen at hm
  by_cases h1 : 1048576 < len
  · go_enter Try.func3, Try.ntmps3
    go_wp2
    go_ret
    exact ⟨rfl, Below.refl _ _⟩
  · go_enter Try.func3, Try.ntmps3
    go_wp2
    go_ret
    exact ⟨rfl, Below.refl _ _⟩

set_option maxHeartbeats 400000 in
theorem walk_k (a : Option Addr) (len cap : Nat) (a1 a2 a3 : Int) (w : World) (h : len ≤ 262144) (hk : a3 < 0 ∨ 65536 < a3) :
    Calls Try.prog 3 #[.slice a len cap, .int .i64 a1, .int .i32 a2, .int .i64 a3] w fun e w' => e = .returned (.bool true) ∧ Below w.heap.size w w' := by
  rcases hk with hk | hk
  · go_enter Try.func3, Try.ntmps3
    go_wp2
    go_ret
    exact ⟨rfl, Below.refl _ _⟩
  · have hk' : ¬ a3 < 0 := by omega
    go_enter Try.func3, Try.ntmps3
    go_wp2
    go_ret
    exact ⟨rfl, Below.refl _ _⟩

set_option maxHeartbeats 400000 in
theorem walk_nil (a1 a2 a3 : Int) (w : World) (k0 : 0 ≤ a3) (k1 : a3 ≤ 65536) (u0 : -2147483648 ≤ a2) (u1 : a2 ≤ 2147483647) :
    Calls Try.prog 3 #[.slice none 0 0, .int .i64 a1, .int .i32 a2, .int .i64 a3] w fun e w' => e = .returned (.bool true) ∧ Below w.heap.size w w' := by
  have hne := fun w => run_neq_slice_nil_any (P := Try.prog) w 22 21 none 0 0 0 0 Try.underlying22
  by_cases hu : a2 < 0
  · go_enter Try.func3, Try.ntmps3
    go_wp2
    go_ret
    exact ⟨rfl, Below.refl _ _⟩
  · have hu' : 0 ≤ a2 := by omega
    go_enter Try.func3, Try.ntmps3
    go_wp2
    go_ret
    exact ⟨rfl, Below.refl _ _⟩

/-- The zeroes that 'make' lays. -/
def blank (n : Nat) : Array Value := madeCells (Value.int .i32 0).cells n

theorem made (len : Nat) (hl : len ≤ 262144) (w : World) : (Instr.makeSlice 22 (.int .i64 (len : Int)) (.int .i64 (len : Int))).run Try.prog w = .ok (.slice (some ⟨w.heap.size, 0, none⟩) len len) (w.alloc (.cells (blank len) 21)) := by
  obtain ⟨i0, hi, hz0, hz1, hz2⟩ := info_parts info21
  have hmk := run_make (P := Try.prog) w 22 21 i0 (.int .i32 0) Try.underlying22 hi hz0 .i64 .i64 (len : Int) (len : Int) (by omega) (by omega) (by rw [hz2]; omega) (by omega)
  simp only [Int.toNat_natCast, hz1, Nat.mul_one] at hmk
  exact hmk

/-- 'copy(zzc, parent)': the copy's cells are the numbers; nothing old has turned. -/
theorem copied (x : Addr) (len cap : Nat) (zs : List Int) (w : World) (hlc : len ≤ zs.length) (hcell : ∀ i, i < zs.length → w.cell? (x.add i) = some (.int .i32 (zs.getD i 0))) :
    ∃ W1, (∀ ty, (Builtin.copy_ #[22, 22] ty #[.slice (some ⟨w.heap.size, 0, none⟩) len len, .slice (some x) len cap]).run Try.prog (w.alloc (.cells (blank len) 21)) = .ok (.int .i64 (len : Int)) W1) ∧
      Rw W1 w.heap.size (zs.take len) ∧ Below w.heap.size w W1 ∧ w.heap.size < W1.heap.size := by
  have hlen : ((zs.take len).map (Value.int .i32)).length = len := by simp; omega
  have hin := fun ty => run_copy_row (P := Try.prog) (w.alloc (.cells (blank len) 21)) 22 22 ty 21 w.heap.size 0 len len x len cap (blank len) 21 ((zs.take len).map (Value.int .i32)) Try.underlying22 (by kernel_rfl) (heap_alloc_new w _) (by rw [hlen]; simp) (by
      intro j v hj
      have hjl : j < len := by
        have := (List.getElem?_eq_some_iff.1 hj).1; omega
      have hold : w.cell? (x.add j) = some (.int .i32 (zs.getD j 0)) := hcell j (by omega)
      have hlt : (x.add j).block < w.heap.size := block_lt_of_cell hold
      rw [World.cell?_alloc_lt _ _ _ hlt, hold]
      rw [← hj]
      simp [hjl, List.getElem?_eq_getElem (show j < zs.length by omega)]) (by rw [hlen]; simp [blank, size_madeCells]) (ints_oneCell _ _)
  rw [hlen] at hin
  refine ⟨_, hin, ?_, ?_, ?_⟩
  · intro j hj
    have hjl : j < len := by simp at hj; omega
    rw [cell_setRow_same _ _ _ _ _ _ _ (heap_alloc_new w _)]
    simp [List.getElem?_append, hjl, List.getElem?_eq_getElem (show j < zs.length by omega)]
    omega
  · exact below_setRow ((Below.refl _ _).alloc (Nat.le_refl _) _) (Nat.le_refl _) _
  · simp [World.setRow]

set_option maxHeartbeats 400000 in
theorem bytes_ok (a : Option Addr) (len cap : Nat) (a1 a2 a3 : Int) (w : World) (hl : len ≤ 262144) :
    Calls Try.prog 4 #[.slice a len cap, .int .i64 a1, .int .i32 a2, .int .i64 a3] w fun e w' => e = .returned (.bool true) ∧ w = w' := by
  go_enter Try.func4, Try.ntmps4
  go_wp2
  go_ret
  exact ⟨rfl, rfl⟩

set_option maxHeartbeats 400000 in
theorem walk_copy (x : Addr) (len cap : Nat) (zs : List Int) (a1 a2 a3 : Int) (w : World) (hl : len ≤ 262144) (hlc : len ≤ zs.length) (hcell : ∀ i, i < zs.length → w.cell? (x.add i) = some (.int .i32 (zs.getD i 0)))
   (hwf : ∀ n ∈ zs, (Lit.int .i32 n).wf = true) (b0 : -9223372036854775808 ≤ a1) (b1 : a1 ≤ 9223372036854775807) (k0 : 0 ≤ a3) (k1 : a3 ≤ 65536) (u0 : -2147483648 ≤ a2) (u1 : a2 ≤ 2147483647) :
    Calls Try.prog 3 #[.slice (some x) len cap, .int .i64 a1, .int .i32 a2, .int .i64 a3] w fun e w' => e = .returned (.bool true) ∧ Below w.heap.size w w' := by
  have hne := fun w => run_neq_slice_nil_any (P := Try.prog) w 22 21 (some x) len cap 0 0 Try.underlying22
  have hmk := made len hl
  obtain ⟨W1, hcp, hrw, hbel, hlt⟩ := copied x len cap zs w hlc hcell
  have hlZ : (zs.take len).length = len := by simp; omega
  have hZwf : ∀ n ∈ zs.take len, (Lit.int .i32 n).wf = true := fun n hn => hwf n (List.mem_of_mem_take hn)
  generalize zs.take len = Z at hrw hlZ hZwf
  clear hcell hwf hlc
  subst hlZ
  have hcZ : ∀ y : Int, 0 ≤ y → y < Z.length → W1.cell? ⟨w.heap.size, y.toNat, none⟩ = some (.int .i32 (par Z y)) := fun y h0 h1 => hrw _ (by omega)
  by_cases hu0 : a2 < 0
  · go_enter Try.func3, Try.ntmps3
    go_wp2_with (go_at_call 4; refine (bytes_ok _ _ _ _ _ _ _ hl).mono ?_; rintro e w' ⟨rfl, rfl⟩)
    go_ret
    exact ⟨rfl, hbel⟩
  by_cases hu1 : (Z.length : Int) ≤ a2
  · have hu0' : 0 ≤ a2 := by omega
    go_enter Try.func3, Try.ntmps3
    go_wp2_with (go_at_call 4; refine (bytes_ok _ _ _ _ _ _ _ hl).mono ?_; rintro e w' ⟨rfl, rfl⟩)
    go_ret
    exact ⟨rfl, hbel⟩
  have hu0' : 0 ≤ a2 := by omega
  have hu1' : a2 < (Z.length : Int) := by omega
  clear hu0 hu1
  go_enter Try.func3, Try.ntmps3
  go_wp2_with (go_at_call 4; refine (bytes_ok _ _ _ _ _ _ _ hl).mono ?_; rintro e w' ⟨rfl, rfl⟩)
  have HC : Hid (∀ y : Int, 0 ≤ y → y < Z.length → W1.cell? ⟨w.heap.size, y.toNat, none⟩ = some (.int .i32 (par Z y))) := hcZ
  have HR : Hid (Rw W1 w.heap.size Z) := hrw
  clear hcZ hcp hmk hne hrw
  go_loop [11, 12, 13] (fun x rr i => ∃ (k : Nat) (y : Int), k ≤ Z.length + 1 ∧ i = .int .i64 k ∧ rr = .bool false ∧ x = .int .i32 y ∧ 0 ≤ y ∧ y < Z.length ∧ Hid (∀ d r, Up Z d y r → Up Z (d + k) a2 r)) (fun _ _ i => Z.length + 1 - (intOf i).toNat)
  case atStart => exact ⟨0, a2, by omega, rfl, rfl, rfl, hu0', hu1', fun d r h => h⟩
  case round =>
    obtain ⟨k, y, hk, rfl, rfl, rfl, y0, y1, HU⟩ := hrel
    have hc := HC.out y y0 y1
    obtain ⟨pb0, pb1⟩ := par_bd hZwf y
    by_cases hkn : k ≤ Z.length
    · by_cases hp0 : par Z y < 0
      · have hup := HU.out 0 y ⟨rfl, y0, y1, hp0⟩
        have hd : k + 0 ≤ 262145 := by omega
        rw [Nat.zero_add] at hup
        go_wp2
        have HUP : Hid (Up Z k a2 y) := hup
        clear hup HU hc hd
        go_loop [14, 15] (fun v kk => ∃ (m d' : Nat) (q : Int), kk = .int .i64 m ∧ (m : Int) ≤ a3 ∧ v = .int .i32 q ∧ Hid (Up Z d' q y ∧ k = d' + m)) (fun _ kk => a3.toNat - (intOf kk).toNat)
        case atStart => exact ⟨0, k, a2, rfl, by omega, rfl, HUP.out, rfl⟩
        case round =>
          obtain ⟨m, d', q, rfl, hm, rfl, HQ⟩ := hrel
          have hq := HQ.out.1.range
          have hcq := HC.out q hq.1 hq.2
          obtain ⟨pq0, pq1⟩ := par_bd hZwf q
          by_cases hma : (m : Int) < a3
          · by_cases hpq : par Z q < 0
            · obtain ⟨rfl, rfl⟩ := HQ.out.1.zero hpq
              have hkm : k = 0 + m := HQ.out.2
              go_wp2_with fail
              refine (zzTop_any w.heap.size Z hl k a2 y a1 b0 b1 HUP.out W1 hlt HR.out).mono ?_
              rintro e w2 ⟨wu, rfl, HWu, hb2⟩
              go_wp2_with fail
              have hlt2 : w.heap.size < w2.heap.size := by have := hb2.size; omega
              have hr2 : Rw w2 w.heap.size Z := fun j hj => (hb2.cell hlt).trans (HR.out j hj)
              refine (zzTop_any w.heap.size Z hl 0 y y a1 b0 b1 HQ.out.1 w2 hlt2 hr2).mono ?_
              rintro e w3 ⟨wv, rfl, HWv, hb3⟩
              obtain rfl : a1 = wv := by rw [HWv.out]; exact wrap64_none a1 b0 b1
              have e1 : wrap64 (wu - a1) = m := wrap64_one a1 wu m (by omega) (by rw [HWu.out]; congr 2; omega)
              have hc3 : w3.cell? ⟨w.heap.size, y.toNat, none⟩ = some (.int .i32 (par Z y)) := (hb3.cell hlt2).trans ((hb2.cell hlt).trans (HC.out y y0 y1))
              clear HWu HWv HQ HUP HR HC hr2 hcq hkm b0 b1
              have hm0 : (0 : Int) ≤ (m : Int) := by omega
              generalize (m : Int) = mI at *
              have hy0 : decide (y < 0) = false := decide_eq_false (by omega)
              have hy1 : decide ((Z.length : Int) ≤ y) = false := decide_eq_false (by omega)
              have hy2 : decide (0 ≤ par Z y) = false := decide_eq_false (by omega)
              go_wp2
              go_ret
              exact ⟨rfl, hbel.trans ((hb2.mono (by omega)).trans (hb3.mono (by omega)))⟩
            · have hg : 0 ≤ par Z q := by omega
              go_wp2
              go_round
              case rel =>
                obtain ⟨d1, e1, hu1⟩ := HQ.out.1.step hg
                exact ⟨m + 1, d1, par Z q, by go_num, by omega, rfl, hu1, by have := HQ.out.2; omega⟩
              case measure => simp [intOf]; omega
          · by_cases hpq : par Z q < 0
            · obtain ⟨rfl, rfl⟩ := HQ.out.1.zero hpq
              have hkm : k = 0 + m := HQ.out.2
              go_wp2_with fail
              refine (zzTop_any w.heap.size Z hl k a2 y a1 b0 b1 HUP.out W1 hlt HR.out).mono ?_
              rintro e w2 ⟨wu, rfl, HWu, hb2⟩
              go_wp2_with fail
              have hlt2 : w.heap.size < w2.heap.size := by have := hb2.size; omega
              have hr2 : Rw w2 w.heap.size Z := fun j hj => (hb2.cell hlt).trans (HR.out j hj)
              refine (zzTop_any w.heap.size Z hl 0 y y a1 b0 b1 HQ.out.1 w2 hlt2 hr2).mono ?_
              rintro e w3 ⟨wv, rfl, HWv, hb3⟩
              obtain rfl : a1 = wv := by rw [HWv.out]; exact wrap64_none a1 b0 b1
              have e1 : wrap64 (wu - a1) = m := wrap64_one a1 wu m (by omega) (by rw [HWu.out]; congr 2; omega)
              have hc3 : w3.cell? ⟨w.heap.size, y.toNat, none⟩ = some (.int .i32 (par Z y)) := (hb3.cell hlt2).trans ((hb2.cell hlt).trans (HC.out y y0 y1))
              clear HWu HWv HQ HUP HR HC hr2 hcq hkm b0 b1
              have hm0 : (0 : Int) ≤ (m : Int) := by omega
              generalize (m : Int) = mI at *
              have hy0 : decide (y < 0) = false := decide_eq_false (by omega)
              have hy1 : decide ((Z.length : Int) ≤ y) = false := decide_eq_false (by omega)
              have hy2 : decide (0 ≤ par Z y) = false := decide_eq_false (by omega)
              go_wp2
              go_ret
              exact ⟨rfl, hbel.trans ((hb2.mono (by omega)).trans (hb3.mono (by omega)))⟩
            · go_wp2_with fail
              refine (zzTop_any w.heap.size Z hl k a2 y a1 b0 b1 HUP.out W1 hlt HR.out).mono ?_
              rintro e w2 ⟨wu, rfl, HWu, hb2⟩
              go_wp2_with fail
              have hlt2 : w.heap.size < w2.heap.size := by have := hb2.size; omega
              have hr2 : Rw w2 w.heap.size Z := fun j hj => (hb2.cell hlt).trans (HR.out j hj)
              refine (zzTop_any w.heap.size Z hl d' q y a1 b0 b1 HQ.out.1 w2 hlt2 hr2).mono ?_
              rintro e w3 ⟨wv, rfl, HWv, hb3⟩
              have e1 : wrap64 (wrap64 (wu - a1) - wrap64 (wv - a1)) = m := wrap64_two a1 wu wv k d' m (by omega) HQ.out.2 HWu.out HWv.out
              have hc3 : w3.cell? ⟨w.heap.size, y.toNat, none⟩ = some (.int .i32 (par Z y)) := (hb3.cell hlt2).trans ((hb2.cell hlt).trans (HC.out y y0 y1))
              have hc4 : w3.cell? ⟨w.heap.size, q.toNat, none⟩ = some (.int .i32 (par Z q)) := (hb3.cell hlt2).trans ((hb2.cell hlt).trans hcq)
              clear HWu HWv HQ HUP HR HC hr2 hcq b0 b1
              have hm0 : (0 : Int) ≤ (m : Int) := by omega
              generalize (m : Int) = mI at *
              have hy0 : decide (y < 0) = false := decide_eq_false (by omega)
              have hy1 : decide ((Z.length : Int) ≤ y) = false := decide_eq_false (by omega)
              have hy2 : decide (0 ≤ par Z y) = false := decide_eq_false (by omega)
              go_wp2
              go_ret
              exact ⟨rfl, hbel.trans ((hb2.mono (by omega)).trans (hb3.mono (by omega)))⟩
      · by_cases hp1 : (Z.length : Int) ≤ par Z y
        · go_wp2
          go_ret
          exact ⟨rfl, hbel⟩
        · go_wp2
          go_round
          case rel => exact ⟨k + 1, par Z y, by omega, by go_num, rfl, rfl, by omega, by omega, fun d r h => by
            have := HU.out (d + 1) r ⟨y0, y1, by omega, h⟩
            rwa [show d + (k + 1) = d + 1 + k by omega]⟩
          case measure => simp [intOf]; omega
    · go_wp2
      go_ret
      exact ⟨rfl, hbel⟩

end Go.Proofs.Qxb6618386a
