/-
  THE WALKS of restart and tryCut.
-/
import Derived.Test.Qxb6618451aHash
import Derived.Deep.LoopGhost
import Derived.Laws.Wrap64
namespace Go.Proofs.Qxb6618451a
open Go.RowKit

set_option maxHeartbeats 400000 in
theorem restart_any (sb fb : Nat) (mn st h : Int) (w : World) (c0 : w.cell? ⟨sb, 0, none⟩ = some (.pointer (some ⟨fb, 0, none⟩))) (c1 : w.cell? ⟨sb, 1, none⟩ = some (.int .i64 st)) (c2 : w.cell? ⟨sb, 2, none⟩ = some (.int .u64 h))
    (f1 : w.frozen? ⟨sb, 1, none⟩ = false) (f2 : w.frozen? ⟨sb, 2, none⟩ = false) (d0 : w.cell? ⟨fb, 0, none⟩ = some (.int .i64 mn)) :
    Calls Try.prog 11 #[.pointer (some ⟨sb, 0, none⟩)] w fun e w' => e = .returned (.tuple #[]) ∧ (w.setCell ⟨sb, 1, none⟩ (.int .i64 (wrap64 (mn.tdiv 2)))).setCell ⟨sb, 2, none⟩ (.int .u64 0) = w' := by
  go_enter Try.func11, Try.ntmps11
  go_wp2
  go_end0
  exact ⟨rfl, rfl⟩

theorem frozen_past (w : World) (o : Obj) (b i : Nat) (h : b < w.heap.size) : (w.alloc o).frozen? ⟨b, i, none⟩ = w.frozen? ⟨b, i, none⟩ := by
  have e := Below.heap_alloc w o b h
  simp only [World.frozen?]
  rw [e]

/-- The two stores into the stream: what lies there behind them. -/
theorem left1 (W : World) (sb : Nat) (u v : Value) (q : Nat) {c : Value} (h : W.cell? ⟨sb, 1, none⟩ = some c) : (((W.drewN q).setCell ⟨sb, 1, none⟩ u).setCell ⟨sb, 2, none⟩ v).cell? ⟨sb, 1, none⟩ = some u := by
  rw [World.cell?_setCell_other _ _ _ _ (by simp), World.cell?_setCell_same _ _ _ (show (W.drewN q).cell? ⟨sb, 1, none⟩ = some c from h)]
theorem left2 (W : World) (sb : Nat) (u v : Value) (q : Nat) {c : Value} (h : W.cell? ⟨sb, 2, none⟩ = some c) : (((W.drewN q).setCell ⟨sb, 1, none⟩ u).setCell ⟨sb, 2, none⟩ v).cell? ⟨sb, 2, none⟩ = some v := by
  refine World.cell?_setCell_same _ _ _ (u := c) ?_
  rw [World.cell?_setCell_other _ _ _ _ (by simp)]; exact h

theorem tdiv2 (a : Int) (h0 : -9223372036854775808 ≤ a) (h1 : a ≤ 9223372036854775807) : wrap64 (a.tdiv 2) = a.tdiv 2 := by
  unfold wrap64; exact tdiv_two_three a h0 h1 2 (.inl rfl)

/-- Half the average against half the length. -/
theorem half_lt (av : Int) (n k : Nat) (h0 : -9223372036854775808 ≤ av) (h1 : av ≤ 9223372036854775807) (h : (n : Int) < av) (hk : (k : Int) < (n : Int) / 2) : (k : Int) < wrap64 (av.tdiv 2) := by
  rw [tdiv2 av h0 h1, Int.tdiv_eq_ediv]
  simp only [show Int.sign 2 = 1 from rfl]
  split <;> omega
theorem half_le (av : Int) (n k : Nat) (h0 : -9223372036854775808 ≤ av) (h1 : av ≤ 9223372036854775807) (h : av ≤ (n : Int)) (hk : (k : Int) < wrap64 (av.tdiv 2)) : k < n / 2 := by
  rw [tdiv2 av h0 h1, Int.tdiv_eq_ediv] at hk
  simp only [show Int.sign 2 = 1 from rfl] at hk
  split at hk <;> omega

set_option maxRecDepth 20000 in
set_option maxHeartbeats 4000000 in
theorem cut_any (C : Ctx) (sb fb bd n cap k0 : Nat) (a : Option Addr) (mn av h0 : Int) (w : World) (hn : n ≤ 1048576) (hk0m : k0 ≤ 9223372036854775807) (ha : 0 < n → a = some ⟨bd, 0, none⟩) (hr : Hid (∀ i, 0 ≤ C.D i ∧ C.D i ≤ 255)) (va : Hid (-9223372036854775808 ≤ av ∧ av ≤ 9223372036854775807)) (hav : Hid (C.av = wrap64 (av.tdiv 2))) (hmh : Hid (C.mh = wrap64 (mn.tdiv 2)))
    (s0 : w.cell? ⟨sb, 0, none⟩ = some (.pointer (some ⟨fb, 0, none⟩))) (s1 : w.cell? ⟨sb, 1, none⟩ = some (.int .i64 k0)) (s2 : w.cell? ⟨sb, 2, none⟩ = some (.int .u64 h0))
    (z1 : w.frozen? ⟨sb, 1, none⟩ = false) (z2 : w.frozen? ⟨sb, 2, none⟩ = false) (g0 : w.cell? ⟨fb, 0, none⟩ = some (.int .i64 mn)) (g1 : w.cell? ⟨fb, 1, none⟩ = some (.int .i64 av))
    (m0 : w.cell? ⟨fb, 515, none⟩ = some (.int .u64 C.m0)) (m1 : w.cell? ⟨fb, 516, none⟩ = some (.int .u64 C.m1)) (hD : Hid (Bytes w bd n C.D)) (hg : Hid (Table w fb 3 C.g)) (hs : Hid (Table w fb 259 C.s)) :
    Calls Try.prog 9 #[.pointer (some ⟨sb, 0, none⟩), .slice a n cap] w fun e w' => e = .returned (.tuple #[.int .i64 (scan C (n / 2 - k0) k0 h0).n, .int .u64 (scan C (n / 2 - k0) k0 h0).fp]) ∧ w'.cell? ⟨sb, 1, none⟩ = some (.int .i64 (scan C (n / 2 - k0) k0 h0).k) ∧ w'.cell? ⟨sb, 2, none⟩ = some (.int .u64 (scan C (n / 2 - k0) k0 h0).h) ∧ Below sb w w' := by
  have i0 : ∀ w, (Instr.index 24 (.agg #[.int .u64 C.m0, .int .u64 C.m1]) (.int .i64 0)).run Try.prog w = .ok (.int .u64 C.m0) w := fun _ => by kernel_rfl
  have i1 : ∀ w, (Instr.index 24 (.agg #[.int .u64 C.m0, .int .u64 C.m1]) (.int .i64 1)).run Try.prog w = .ok (.int .u64 C.m1) w := fun _ => by kernel_rfl
  by_cases hmin : (n : Int) < av
  · go_enter Try.func9, Try.ntmps9
    go_wp2
    go_quiet (fail)
    obtain ⟨w1, hw1⟩ : ∃ w1, w1 = w.drewN nq := ⟨_, rfl⟩
    rw [← hw1]
    have b1 : Below sb w w1 := by rw [hw1]; exact below_drewN (Below.refl _ _) _
    have s0' : w1.cell? ⟨sb, 0, none⟩ = some (.pointer (some ⟨fb, 0, none⟩)) := by rw [hw1]; exact s0
    have s1' : w1.cell? ⟨sb, 1, none⟩ = some (.int .i64 k0) := by rw [hw1]; exact s1
    have s2' : w1.cell? ⟨sb, 2, none⟩ = some (.int .u64 h0) := by rw [hw1]; exact s2
    have z1' : w1.frozen? ⟨sb, 1, none⟩ = false := by rw [hw1]; exact z1
    have z2' : w1.frozen? ⟨sb, 2, none⟩ = false := by rw [hw1]; exact z2
    have g0' : w1.cell? ⟨fb, 0, none⟩ = some (.int .i64 mn) := by rw [hw1]; exact g0
    have g1' : w1.cell? ⟨fb, 1, none⟩ = some (.int .i64 av) := by rw [hw1]; exact g1
    have m0' : w1.cell? ⟨fb, 515, none⟩ = some (.int .u64 C.m0) := by rw [hw1]; exact m0
    have m1' : w1.cell? ⟨fb, 516, none⟩ = some (.int .u64 C.m1) := by rw [hw1]; exact m1
    have hD' : Hid (Bytes w1 bd n C.D) := by rw [hw1]; exact hD
    have hg' : Hid (Table w1 fb 3 C.g) := by rw [hw1]; exact hg
    have hs' : Hid (Table w1 fb 259 C.s) := by rw [hw1]; exact hs
    have hfb : fb < w1.heap.size := block_lt_of_cell g1'
    have hsb : sb < w1.heap.size := block_lt_of_cell s0'
    clear s0 s1 s2 z1 z2 g0 g1 m0 m1 hD hg hs hw1
    go_wp2
    obtain ⟨W2, hW2⟩ : ∃ W2, W2 = w1.alloc (.cells #[.int .i64 ((n : Int) / 2), .int .i64 ((n : Int) / 2)] 44) := ⟨_, rfl⟩
    rw [← hW2]
    have HB : Hid (Below sb w W2) := by rw [hW2]; exact b1.alloc (by omega) _
    have s0 : W2.cell? ⟨sb, 0, none⟩ = some (.pointer (some ⟨fb, 0, none⟩)) := by rw [hW2, World.cell?_alloc_past _ _ _ hsb]; exact s0'
    have s1 : W2.cell? ⟨sb, 1, none⟩ = some (.int .i64 k0) := by rw [hW2, World.cell?_alloc_past _ _ _ hsb]; exact s1'
    have s2 : W2.cell? ⟨sb, 2, none⟩ = some (.int .u64 h0) := by rw [hW2, World.cell?_alloc_past _ _ _ hsb]; exact s2'
    have z1 : W2.frozen? ⟨sb, 1, none⟩ = false := by rw [hW2, frozen_past _ _ _ _ hsb]; exact z1'
    have z2 : W2.frozen? ⟨sb, 2, none⟩ = false := by rw [hW2, frozen_past _ _ _ _ hsb]; exact z2'
    have g0 : W2.cell? ⟨fb, 0, none⟩ = some (.int .i64 mn) := by rw [hW2, World.cell?_alloc_past _ _ _ hfb]; exact g0'
    have hD : Hid (Bytes W2 bd n C.D) := fun i hi => by
      have := hD'.out i hi
      rw [hW2, World.cell?_alloc_past _ _ _ (block_lt_of_cell this)]; exact this
    have hg : Hid (Table W2 fb 3 C.g) := fun i hi => by rw [hW2, World.cell?_alloc_past _ _ _ hfb]; exact hg'.out i hi
    have hs : Hid (Table W2 fb 259 C.s) := fun i hi => by rw [hW2, World.cell?_alloc_past _ _ _ hfb]; exact hs'.out i hi
    have e0c : W2.cell? ⟨w1.heap.size, 0, none⟩ = some (.int .i64 ((n : Int) / 2)) := by rw [hW2]; exact cell_of_row _ _ _ _ _ _ (heap_alloc_new w1 _)
    have e1c : W2.cell? ⟨w1.heap.size, 1, none⟩ = some (.int .i64 ((n : Int) / 2)) := by rw [hW2]; exact cell_of_row _ _ _ _ _ _ (heap_alloc_new w1 _)
    clear s0' s1' s2' z1' z2' g0' g1' m0' m1' hD' hg' hs' b1 hW2
    go_loopg [42, 7, 8] 2 (fun gm i h kk wr => ∃ (iN k : Nat) (x : Int), gm = 2 - iN ∧ iN ≤ 2 ∧ i = .int .i64 iN ∧ h = .int .u64 x ∧ kk = .int .i64 k ∧ k ≤ 9223372036854775807 ∧ Hid (scan C (n / 2 - k0) k0 h0 = scan C (n / 2 - k) k x) ∧ Hid (iN = 0 ∨ (iN = 1 ∧ ¬ (k : Int) < (n : Int) / 2) ∨ (iN = 2 ∧ ¬ (k : Int) < (n : Int) / 2)) ∧ ∃ q, wr = W2.drewN q)
    case atStart => exact ⟨0, k0, h0, rfl, by omega, rfl, rfl, rfl, hk0m, rfl, .inl rfl, 0, rfl⟩
    case round =>
      obtain ⟨iN, k, x, rfl, hi2, rfl, rfl, rfl, hkm, HS, HI, q, rfl⟩ := hrel
      rcases (show iN = 0 ∨ iN = 1 ∨ iN = 2 by omega) with rfl | rfl | rfl
      · clear HI
        go_wp2
        go_loopg [7, 8, 13] (n / 2 - k) (fun gm h kk _ wr => ∃ (k1 : Nat) (x1 : Int), gm = n / 2 - k1 ∧ k ≤ k1 ∧ k1 ≤ 9223372036854775807 ∧ h = .int .u64 x1 ∧ kk = .int .i64 k1 ∧ Hid (scan C (n / 2 - k0) k0 h0 = scan C (n / 2 - k1) k1 x1) ∧ ∃ q, wr = W2.drewN q)
        case atStart => exact ⟨k, x, rfl, Nat.le_refl _, hkm, rfl, rfl, HS.out, _, rfl⟩
        case round =>
          clear HS
          obtain ⟨k1, x1, rfl, hkk, hk1m, rfl, rfl, HS, q1, rfl⟩ := hrel
          by_cases hlt : (k1 : Int) < (n : Int) / 2
          · have hl2 : k1 < n / 2 := by omega
            have hmk : mask C k1 = C.m0 := by rw [mask, hav.out, if_pos (half_lt av n k1 va.out.1 va.out.2 hmin hlt)]
            obtain rfl : a = some ⟨bd, 0, none⟩ := ha (by omega)
            have y1b := hr.out (2 * k1)
            have y2b := hr.out (2 * k1 + 1)
            have c3 := hD.out (2 * k1) (by omega)
            have c4 := hD.out (2 * k1 + 1) (by omega)
            obtain ⟨y1, hy1⟩ : ∃ y1, y1 = C.D (2 * k1) := ⟨_, rfl⟩
            obtain ⟨y2, hy2⟩ : ∃ y2, y2 = C.D (2 * k1 + 1) := ⟨_, rfl⟩
            rw [← hy1] at c3 y1b
            rw [← hy2] at c4 y2b
            have c5 : W2.cell? ⟨fb, 259 + y1.toNat, none⟩ = some (.int .u64 (sAt C k1)) := by
              rw [hs.out y1.toNat (by omega), hy1]; rfl
            have c6 : W2.cell? ⟨fb, 3 + y2.toNat, none⟩ = some (.int .u64 (gAt C k1)) := by
              rw [hg.out y2.toNat (by omega), hy2]; rfl
            have hi1 : (2 * (k1 : Int)) < (n : Int) := by omega
            have hi2 : (2 * (k1 : Int)) + 1 < (n : Int) := by omega
            have hi3 : (y1 : Int) < 256 := by omega
            have hi4 : (y2 : Int) < 256 := by omega
            have hi5 : (0 : Int) ≤ y1 := by omega
            have hi6 : (0 : Int) ≤ y2 := by omega
            clear hy1 hy2 y1b y2b
            by_cases fA : hitA (mid C k1 x1) (mask C k1) = true
            · have fa : (bits BinOp.and IntKind.u64 (IntKind.u64.wrap (IntKind.u64.wrap (x1 * 4) + sAt C k1)) (IntKind.u64.wrap (C.m0 * 2)) == 0) = true := by rw [hmk] at fA; exact fA
              have hres : scan C (n / 2 - k0) k0 h0 = ⟨true, 2 * k1, mid C k1 x1, wrap64 (mn.tdiv 2), 0⟩ := by
                rw [HS.out, ← hmh.out]; exact scan_a C _ k1 x1 hl2 fA
              have HRES : Hid (scan C (n / 2 - k0) k0 h0 = ⟨true, 2 * k1, mid C k1 x1, wrap64 (mn.tdiv 2), 0⟩) := hres
              clear hmk fA hres HS
              go_wp2
              go_quiet (fail)
              go_wp2_with fail
              refine (restart_any sb fb mn k0 h0 _ (by exact s0) (by exact s1) (by exact s2) (by exact z1) (by exact z2) (by exact g0)).mono ?_
              rintro e w' ⟨rfl, rfl⟩
              go_wp2
              go_ret2
              exact ⟨by rw [HRES.out]; rfl, by rw [HRES.out]; exact left1 _ _ _ _ _ s1, by rw [HRES.out]; exact left2 _ _ _ _ _ s2, ((below_drewN HB.out _).setCell (Nat.le_refl _) _).setCell (Nat.le_refl _) _⟩
            · have fA' : hitA (mid C k1 x1) (mask C k1) = false := by simpa using fA
              have fa : (bits BinOp.and IntKind.u64 (IntKind.u64.wrap (IntKind.u64.wrap (x1 * 4) + sAt C k1)) (IntKind.u64.wrap (C.m0 * 2)) == 0) = false := by rw [hmk] at fA'; exact fA'
              by_cases fB : hitB (fin C k1 (mid C k1 x1)) (mask C k1) = true
              · have fbb : (bits BinOp.and IntKind.u64 (IntKind.u64.wrap (IntKind.u64.wrap (IntKind.u64.wrap (x1 * 4) + sAt C k1) + gAt C k1)) C.m0 == 0) = true := by rw [hmk] at fB; exact fB
                have hres : scan C (n / 2 - k0) k0 h0 = ⟨true, 2 * k1 + 1, fin C k1 (mid C k1 x1), wrap64 (mn.tdiv 2), 0⟩ := by
                  rw [HS.out, ← hmh.out]; exact scan_b C _ k1 x1 hl2 fA' fB
                have HRES : Hid (scan C (n / 2 - k0) k0 h0 = ⟨true, 2 * k1 + 1, fin C k1 (mid C k1 x1), wrap64 (mn.tdiv 2), 0⟩) := hres
                clear hmk fA fA' fB hres HS
                go_wp2
                go_quiet (fail)
                go_wp2
                go_quiet (fail)
                go_wp2_with fail
                refine (restart_any sb fb mn k0 h0 _ (by exact s0) (by exact s1) (by exact s2) (by exact z1) (by exact z2) (by exact g0)).mono ?_
                rintro e w' ⟨rfl, rfl⟩
                go_wp2
                go_ret2
                exact ⟨by rw [HRES.out]; rfl, by rw [HRES.out]; exact left1 _ _ _ _ _ s1, by rw [HRES.out]; exact left2 _ _ _ _ _ s2, ((below_drewN HB.out _).setCell (Nat.le_refl _) _).setCell (Nat.le_refl _) _⟩
              · have fB' : hitB (fin C k1 (mid C k1 x1)) (mask C k1) = false := by simpa using fB
                have fbb : (bits BinOp.and IntKind.u64 (IntKind.u64.wrap (IntKind.u64.wrap (IntKind.u64.wrap (x1 * 4) + sAt C k1) + gAt C k1)) C.m0 == 0) = false := by rw [hmk] at fB'; exact fB'
                have hnext : Hid (scan C (n / 2 - k0) k0 h0 = scan C (n / 2 - (k1 + 1)) (k1 + 1) (fin C k1 (mid C k1 x1))) := by
                  show _ = _
                  rw [HS.out, scan_c C _ k1 x1 hl2 fA' fB']
                clear hmk fA fA' fB fB' HS
                go_wp2
                go_quiet (fail)
                go_wp2
                go_quiet (fail)
                go_wp2
                go_roundg (n / 2 - (k1 + 1))
                case measure => omega
                case rel => exact ⟨k1 + 1, _, rfl, by omega, by omega, rfl, by go_num, hnext, _, rfl⟩
          · go_wp2
            go_roundg 1
            case measure => omega
            case rel => exact ⟨1, k1, x1, rfl, by omega, by go_num, rfl, rfl, hk1m, HS.out, .inr (.inl ⟨rfl, hlt⟩), _, rfl⟩
      · have hge : ¬ (k : Int) < (n : Int) / 2 := by rcases HI.out with h | h | h <;> omega
        clear HI
        go_wp2
        go_loopg [7, 8, 13] (n / 2 - k) (fun gm h kk _ wr => ∃ (k1 : Nat) (x1 : Int), gm = n / 2 - k1 ∧ k ≤ k1 ∧ k1 ≤ 9223372036854775807 ∧ h = .int .u64 x1 ∧ kk = .int .i64 k1 ∧ Hid (scan C (n / 2 - k0) k0 h0 = scan C (n / 2 - k1) k1 x1) ∧ ∃ q, wr = W2.drewN q)
        case atStart => exact ⟨k, x, rfl, Nat.le_refl _, hkm, rfl, rfl, HS.out, _, rfl⟩
        case round =>
          clear HS
          obtain ⟨k1, x1, rfl, hkk, hk1m, rfl, rfl, HS, q1, rfl⟩ := hrel
          by_cases hlt : (k1 : Int) < (n : Int) / 2
          · exfalso; omega
          · go_wp2
            go_roundg 0
            case measure => omega
            case rel => exact ⟨2, k1, x1, rfl, by omega, by go_num, rfl, rfl, hk1m, HS.out, .inr (.inr ⟨rfl, hlt⟩), _, rfl⟩
      · have hge : ¬ (k : Int) < (n : Int) / 2 := by rcases HI.out with h | h | h <;> omega
        have hres : scan C (n / 2 - k0) k0 h0 = ⟨false, 0, 0, k, x⟩ := by
          rw [HS.out]; exact scan_done C _ _ _ (by omega)
        have HRES : Hid (scan C (n / 2 - k0) k0 h0 = ⟨false, 0, 0, k, x⟩) := hres
        clear HI HS hres
        go_wp2
        go_ret2
        exact ⟨by rw [HRES.out]; rfl, by rw [HRES.out]; exact left1 _ _ _ _ _ s1, by rw [HRES.out]; exact left2 _ _ _ _ _ s2, ((below_drewN HB.out _).setCell (Nat.le_refl _) _).setCell (Nat.le_refl _) _⟩
  · have hmin' : av ≤ (n : Int) := by omega
    go_enter Try.func9, Try.ntmps9
    go_wp2
    go_quiet (fail)
    obtain ⟨w1, hw1⟩ : ∃ w1, w1 = w.drewN nq := ⟨_, rfl⟩
    rw [← hw1]
    have b1 : Below sb w w1 := by rw [hw1]; exact below_drewN (Below.refl _ _) _
    have s0' : w1.cell? ⟨sb, 0, none⟩ = some (.pointer (some ⟨fb, 0, none⟩)) := by rw [hw1]; exact s0
    have s1' : w1.cell? ⟨sb, 1, none⟩ = some (.int .i64 k0) := by rw [hw1]; exact s1
    have s2' : w1.cell? ⟨sb, 2, none⟩ = some (.int .u64 h0) := by rw [hw1]; exact s2
    have z1' : w1.frozen? ⟨sb, 1, none⟩ = false := by rw [hw1]; exact z1
    have z2' : w1.frozen? ⟨sb, 2, none⟩ = false := by rw [hw1]; exact z2
    have g0' : w1.cell? ⟨fb, 0, none⟩ = some (.int .i64 mn) := by rw [hw1]; exact g0
    have g1' : w1.cell? ⟨fb, 1, none⟩ = some (.int .i64 av) := by rw [hw1]; exact g1
    have m0' : w1.cell? ⟨fb, 515, none⟩ = some (.int .u64 C.m0) := by rw [hw1]; exact m0
    have m1' : w1.cell? ⟨fb, 516, none⟩ = some (.int .u64 C.m1) := by rw [hw1]; exact m1
    have hD' : Hid (Bytes w1 bd n C.D) := by rw [hw1]; exact hD
    have hg' : Hid (Table w1 fb 3 C.g) := by rw [hw1]; exact hg
    have hs' : Hid (Table w1 fb 259 C.s) := by rw [hw1]; exact hs
    have hfb : fb < w1.heap.size := block_lt_of_cell g1'
    have hsb : sb < w1.heap.size := block_lt_of_cell s0'
    clear s0 s1 s2 z1 z2 g0 g1 m0 m1 hD hg hs hw1
    go_wp2
    obtain ⟨W2, hW2⟩ : ∃ W2, W2 = w1.alloc (.cells #[.int .i64 (wrap64 (av.tdiv 2)), .int .i64 ((n : Int) / 2)] 44) := ⟨_, rfl⟩
    rw [← hW2]
    have HB : Hid (Below sb w W2) := by rw [hW2]; exact b1.alloc (by omega) _
    have s0 : W2.cell? ⟨sb, 0, none⟩ = some (.pointer (some ⟨fb, 0, none⟩)) := by rw [hW2, World.cell?_alloc_past _ _ _ hsb]; exact s0'
    have s1 : W2.cell? ⟨sb, 1, none⟩ = some (.int .i64 k0) := by rw [hW2, World.cell?_alloc_past _ _ _ hsb]; exact s1'
    have s2 : W2.cell? ⟨sb, 2, none⟩ = some (.int .u64 h0) := by rw [hW2, World.cell?_alloc_past _ _ _ hsb]; exact s2'
    have z1 : W2.frozen? ⟨sb, 1, none⟩ = false := by rw [hW2, frozen_past _ _ _ _ hsb]; exact z1'
    have z2 : W2.frozen? ⟨sb, 2, none⟩ = false := by rw [hW2, frozen_past _ _ _ _ hsb]; exact z2'
    have g0 : W2.cell? ⟨fb, 0, none⟩ = some (.int .i64 mn) := by rw [hW2, World.cell?_alloc_past _ _ _ hfb]; exact g0'
    have hD : Hid (Bytes W2 bd n C.D) := fun i hi => by
      have := hD'.out i hi
      rw [hW2, World.cell?_alloc_past _ _ _ (block_lt_of_cell this)]; exact this
    have hg : Hid (Table W2 fb 3 C.g) := fun i hi => by rw [hW2, World.cell?_alloc_past _ _ _ hfb]; exact hg'.out i hi
    have hs : Hid (Table W2 fb 259 C.s) := fun i hi => by rw [hW2, World.cell?_alloc_past _ _ _ hfb]; exact hs'.out i hi
    have e0c : W2.cell? ⟨w1.heap.size, 0, none⟩ = some (.int .i64 (wrap64 (av.tdiv 2))) := by rw [hW2]; exact cell_of_row _ _ _ _ _ _ (heap_alloc_new w1 _)
    have e1c : W2.cell? ⟨w1.heap.size, 1, none⟩ = some (.int .i64 ((n : Int) / 2)) := by rw [hW2]; exact cell_of_row _ _ _ _ _ _ (heap_alloc_new w1 _)
    clear s0' s1' s2' z1' z2' g0' g1' m0' m1' hD' hg' hs' b1 hW2
    go_loopg [42, 7, 8] 2 (fun gm i h kk wr => ∃ (iN k : Nat) (x : Int), gm = 2 - iN ∧ iN ≤ 2 ∧ i = .int .i64 iN ∧ h = .int .u64 x ∧ kk = .int .i64 k ∧ k ≤ 9223372036854775807 ∧ Hid (scan C (n / 2 - k0) k0 h0 = scan C (n / 2 - k) k x) ∧ Hid (iN = 0 ∨ (iN = 1 ∧ ¬ (k : Int) < wrap64 (av.tdiv 2)) ∨ (iN = 2 ∧ ¬ (k : Int) < (n : Int) / 2)) ∧ ∃ q, wr = W2.drewN q)
    case atStart => exact ⟨0, k0, h0, rfl, by omega, rfl, rfl, rfl, hk0m, rfl, .inl rfl, 0, rfl⟩
    case round =>
      obtain ⟨iN, k, x, rfl, hi2, rfl, rfl, rfl, hkm, HS, HI, q, rfl⟩ := hrel
      rcases (show iN = 0 ∨ iN = 1 ∨ iN = 2 by omega) with rfl | rfl | rfl
      · clear HI
        go_wp2
        go_loopg [7, 8, 13] (n / 2 - k) (fun gm h kk _ wr => ∃ (k1 : Nat) (x1 : Int), gm = n / 2 - k1 ∧ k ≤ k1 ∧ k1 ≤ 9223372036854775807 ∧ h = .int .u64 x1 ∧ kk = .int .i64 k1 ∧ Hid (scan C (n / 2 - k0) k0 h0 = scan C (n / 2 - k1) k1 x1) ∧ ∃ q, wr = W2.drewN q)
        case atStart => exact ⟨k, x, rfl, Nat.le_refl _, hkm, rfl, rfl, HS.out, _, rfl⟩
        case round =>
          clear HS
          obtain ⟨k1, x1, rfl, hkk, hk1m, rfl, rfl, HS, q1, rfl⟩ := hrel
          by_cases hlt : (k1 : Int) < wrap64 (av.tdiv 2)
          · have hl2 : k1 < n / 2 := half_le av n k1 va.out.1 va.out.2 hmin' hlt
            have hmk : mask C k1 = C.m0 := by rw [mask, hav.out, if_pos hlt]
            obtain rfl : a = some ⟨bd, 0, none⟩ := ha (by omega)
            have y1b := hr.out (2 * k1)
            have y2b := hr.out (2 * k1 + 1)
            have c3 := hD.out (2 * k1) (by omega)
            have c4 := hD.out (2 * k1 + 1) (by omega)
            obtain ⟨y1, hy1⟩ : ∃ y1, y1 = C.D (2 * k1) := ⟨_, rfl⟩
            obtain ⟨y2, hy2⟩ : ∃ y2, y2 = C.D (2 * k1 + 1) := ⟨_, rfl⟩
            rw [← hy1] at c3 y1b
            rw [← hy2] at c4 y2b
            have c5 : W2.cell? ⟨fb, 259 + y1.toNat, none⟩ = some (.int .u64 (sAt C k1)) := by
              rw [hs.out y1.toNat (by omega), hy1]; rfl
            have c6 : W2.cell? ⟨fb, 3 + y2.toNat, none⟩ = some (.int .u64 (gAt C k1)) := by
              rw [hg.out y2.toNat (by omega), hy2]; rfl
            have hi1 : (2 * (k1 : Int)) < (n : Int) := by omega
            have hi2 : (2 * (k1 : Int)) + 1 < (n : Int) := by omega
            have hi3 : (y1 : Int) < 256 := by omega
            have hi4 : (y2 : Int) < 256 := by omega
            have hi5 : (0 : Int) ≤ y1 := by omega
            have hi6 : (0 : Int) ≤ y2 := by omega
            clear hy1 hy2 y1b y2b
            by_cases fA : hitA (mid C k1 x1) (mask C k1) = true
            · have fa : (bits BinOp.and IntKind.u64 (IntKind.u64.wrap (IntKind.u64.wrap (x1 * 4) + sAt C k1)) (IntKind.u64.wrap (C.m0 * 2)) == 0) = true := by rw [hmk] at fA; exact fA
              have hres : scan C (n / 2 - k0) k0 h0 = ⟨true, 2 * k1, mid C k1 x1, wrap64 (mn.tdiv 2), 0⟩ := by
                rw [HS.out, ← hmh.out]; exact scan_a C _ k1 x1 hl2 fA
              have HRES : Hid (scan C (n / 2 - k0) k0 h0 = ⟨true, 2 * k1, mid C k1 x1, wrap64 (mn.tdiv 2), 0⟩) := hres
              clear hmk fA hres HS
              go_wp2
              go_quiet (fail)
              go_wp2_with fail
              refine (restart_any sb fb mn k0 h0 _ (by exact s0) (by exact s1) (by exact s2) (by exact z1) (by exact z2) (by exact g0)).mono ?_
              rintro e w' ⟨rfl, rfl⟩
              go_wp2
              go_ret2
              exact ⟨by rw [HRES.out]; rfl, by rw [HRES.out]; exact left1 _ _ _ _ _ s1, by rw [HRES.out]; exact left2 _ _ _ _ _ s2, ((below_drewN HB.out _).setCell (Nat.le_refl _) _).setCell (Nat.le_refl _) _⟩
            · have fA' : hitA (mid C k1 x1) (mask C k1) = false := by simpa using fA
              have fa : (bits BinOp.and IntKind.u64 (IntKind.u64.wrap (IntKind.u64.wrap (x1 * 4) + sAt C k1)) (IntKind.u64.wrap (C.m0 * 2)) == 0) = false := by rw [hmk] at fA'; exact fA'
              by_cases fB : hitB (fin C k1 (mid C k1 x1)) (mask C k1) = true
              · have fbb : (bits BinOp.and IntKind.u64 (IntKind.u64.wrap (IntKind.u64.wrap (IntKind.u64.wrap (x1 * 4) + sAt C k1) + gAt C k1)) C.m0 == 0) = true := by rw [hmk] at fB; exact fB
                have hres : scan C (n / 2 - k0) k0 h0 = ⟨true, 2 * k1 + 1, fin C k1 (mid C k1 x1), wrap64 (mn.tdiv 2), 0⟩ := by
                  rw [HS.out, ← hmh.out]; exact scan_b C _ k1 x1 hl2 fA' fB
                have HRES : Hid (scan C (n / 2 - k0) k0 h0 = ⟨true, 2 * k1 + 1, fin C k1 (mid C k1 x1), wrap64 (mn.tdiv 2), 0⟩) := hres
                clear hmk fA fA' fB hres HS
                go_wp2
                go_quiet (fail)
                go_wp2
                go_quiet (fail)
                go_wp2_with fail
                refine (restart_any sb fb mn k0 h0 _ (by exact s0) (by exact s1) (by exact s2) (by exact z1) (by exact z2) (by exact g0)).mono ?_
                rintro e w' ⟨rfl, rfl⟩
                go_wp2
                go_ret2
                exact ⟨by rw [HRES.out]; rfl, by rw [HRES.out]; exact left1 _ _ _ _ _ s1, by rw [HRES.out]; exact left2 _ _ _ _ _ s2, ((below_drewN HB.out _).setCell (Nat.le_refl _) _).setCell (Nat.le_refl _) _⟩
              · have fB' : hitB (fin C k1 (mid C k1 x1)) (mask C k1) = false := by simpa using fB
                have fbb : (bits BinOp.and IntKind.u64 (IntKind.u64.wrap (IntKind.u64.wrap (IntKind.u64.wrap (x1 * 4) + sAt C k1) + gAt C k1)) C.m0 == 0) = false := by rw [hmk] at fB'; exact fB'
                have hnext : Hid (scan C (n / 2 - k0) k0 h0 = scan C (n / 2 - (k1 + 1)) (k1 + 1) (fin C k1 (mid C k1 x1))) := by
                  show _ = _
                  rw [HS.out, scan_c C _ k1 x1 hl2 fA' fB']
                clear hmk fA fA' fB fB' HS
                go_wp2
                go_quiet (fail)
                go_wp2
                go_quiet (fail)
                go_wp2
                go_roundg (n / 2 - (k1 + 1))
                case measure => omega
                case rel => exact ⟨k1 + 1, _, rfl, by omega, by omega, rfl, by go_num, hnext, _, rfl⟩
          · go_wp2
            go_roundg 1
            case measure => omega
            case rel => exact ⟨1, k1, x1, rfl, by omega, by go_num, rfl, rfl, hk1m, HS.out, .inr (.inl ⟨rfl, hlt⟩), _, rfl⟩
      · have hge : ¬ (k : Int) < wrap64 (av.tdiv 2) := by rcases HI.out with h | h | h <;> omega
        clear HI
        go_wp2
        go_loopg [7, 8, 13] (n / 2 - k) (fun gm h kk _ wr => ∃ (k1 : Nat) (x1 : Int), gm = n / 2 - k1 ∧ k ≤ k1 ∧ k1 ≤ 9223372036854775807 ∧ h = .int .u64 x1 ∧ kk = .int .i64 k1 ∧ Hid (scan C (n / 2 - k0) k0 h0 = scan C (n / 2 - k1) k1 x1) ∧ ∃ q, wr = W2.drewN q)
        case atStart => exact ⟨k, x, rfl, Nat.le_refl _, hkm, rfl, rfl, HS.out, _, rfl⟩
        case round =>
          clear HS
          obtain ⟨k1, x1, rfl, hkk, hk1m, rfl, rfl, HS, q1, rfl⟩ := hrel
          by_cases hlt : (k1 : Int) < (n : Int) / 2
          · have hl2 : k1 < n / 2 := by omega
            have hmk : mask C k1 = C.m1 := by rw [mask, hav.out, if_neg (by omega)]
            obtain rfl : a = some ⟨bd, 0, none⟩ := ha (by omega)
            have y1b := hr.out (2 * k1)
            have y2b := hr.out (2 * k1 + 1)
            have c3 := hD.out (2 * k1) (by omega)
            have c4 := hD.out (2 * k1 + 1) (by omega)
            obtain ⟨y1, hy1⟩ : ∃ y1, y1 = C.D (2 * k1) := ⟨_, rfl⟩
            obtain ⟨y2, hy2⟩ : ∃ y2, y2 = C.D (2 * k1 + 1) := ⟨_, rfl⟩
            rw [← hy1] at c3 y1b
            rw [← hy2] at c4 y2b
            have c5 : W2.cell? ⟨fb, 259 + y1.toNat, none⟩ = some (.int .u64 (sAt C k1)) := by
              rw [hs.out y1.toNat (by omega), hy1]; rfl
            have c6 : W2.cell? ⟨fb, 3 + y2.toNat, none⟩ = some (.int .u64 (gAt C k1)) := by
              rw [hg.out y2.toNat (by omega), hy2]; rfl
            have hi1 : (2 * (k1 : Int)) < (n : Int) := by omega
            have hi2 : (2 * (k1 : Int)) + 1 < (n : Int) := by omega
            have hi3 : (y1 : Int) < 256 := by omega
            have hi4 : (y2 : Int) < 256 := by omega
            have hi5 : (0 : Int) ≤ y1 := by omega
            have hi6 : (0 : Int) ≤ y2 := by omega
            clear hy1 hy2 y1b y2b
            by_cases fA : hitA (mid C k1 x1) (mask C k1) = true
            · have fa : (bits BinOp.and IntKind.u64 (IntKind.u64.wrap (IntKind.u64.wrap (x1 * 4) + sAt C k1)) (IntKind.u64.wrap (C.m1 * 2)) == 0) = true := by rw [hmk] at fA; exact fA
              have hres : scan C (n / 2 - k0) k0 h0 = ⟨true, 2 * k1, mid C k1 x1, wrap64 (mn.tdiv 2), 0⟩ := by
                rw [HS.out, ← hmh.out]; exact scan_a C _ k1 x1 hl2 fA
              have HRES : Hid (scan C (n / 2 - k0) k0 h0 = ⟨true, 2 * k1, mid C k1 x1, wrap64 (mn.tdiv 2), 0⟩) := hres
              clear hmk fA hres HS
              go_wp2
              go_quiet (fail)
              go_wp2_with fail
              refine (restart_any sb fb mn k0 h0 _ (by exact s0) (by exact s1) (by exact s2) (by exact z1) (by exact z2) (by exact g0)).mono ?_
              rintro e w' ⟨rfl, rfl⟩
              go_wp2
              go_ret2
              exact ⟨by rw [HRES.out]; rfl, by rw [HRES.out]; exact left1 _ _ _ _ _ s1, by rw [HRES.out]; exact left2 _ _ _ _ _ s2, ((below_drewN HB.out _).setCell (Nat.le_refl _) _).setCell (Nat.le_refl _) _⟩
            · have fA' : hitA (mid C k1 x1) (mask C k1) = false := by simpa using fA
              have fa : (bits BinOp.and IntKind.u64 (IntKind.u64.wrap (IntKind.u64.wrap (x1 * 4) + sAt C k1)) (IntKind.u64.wrap (C.m1 * 2)) == 0) = false := by rw [hmk] at fA'; exact fA'
              by_cases fB : hitB (fin C k1 (mid C k1 x1)) (mask C k1) = true
              · have fbb : (bits BinOp.and IntKind.u64 (IntKind.u64.wrap (IntKind.u64.wrap (IntKind.u64.wrap (x1 * 4) + sAt C k1) + gAt C k1)) C.m1 == 0) = true := by rw [hmk] at fB; exact fB
                have hres : scan C (n / 2 - k0) k0 h0 = ⟨true, 2 * k1 + 1, fin C k1 (mid C k1 x1), wrap64 (mn.tdiv 2), 0⟩ := by
                  rw [HS.out, ← hmh.out]; exact scan_b C _ k1 x1 hl2 fA' fB
                have HRES : Hid (scan C (n / 2 - k0) k0 h0 = ⟨true, 2 * k1 + 1, fin C k1 (mid C k1 x1), wrap64 (mn.tdiv 2), 0⟩) := hres
                clear hmk fA fA' fB hres HS
                go_wp2
                go_quiet (fail)
                go_wp2
                go_quiet (fail)
                go_wp2_with fail
                refine (restart_any sb fb mn k0 h0 _ (by exact s0) (by exact s1) (by exact s2) (by exact z1) (by exact z2) (by exact g0)).mono ?_
                rintro e w' ⟨rfl, rfl⟩
                go_wp2
                go_ret2
                exact ⟨by rw [HRES.out]; rfl, by rw [HRES.out]; exact left1 _ _ _ _ _ s1, by rw [HRES.out]; exact left2 _ _ _ _ _ s2, ((below_drewN HB.out _).setCell (Nat.le_refl _) _).setCell (Nat.le_refl _) _⟩
              · have fB' : hitB (fin C k1 (mid C k1 x1)) (mask C k1) = false := by simpa using fB
                have fbb : (bits BinOp.and IntKind.u64 (IntKind.u64.wrap (IntKind.u64.wrap (IntKind.u64.wrap (x1 * 4) + sAt C k1) + gAt C k1)) C.m1 == 0) = false := by rw [hmk] at fB'; exact fB'
                have hnext : Hid (scan C (n / 2 - k0) k0 h0 = scan C (n / 2 - (k1 + 1)) (k1 + 1) (fin C k1 (mid C k1 x1))) := by
                  show _ = _
                  rw [HS.out, scan_c C _ k1 x1 hl2 fA' fB']
                clear hmk fA fA' fB fB' HS
                go_wp2
                go_quiet (fail)
                go_wp2
                go_quiet (fail)
                go_wp2
                go_roundg (n / 2 - (k1 + 1))
                case measure => omega
                case rel => exact ⟨k1 + 1, _, rfl, by omega, by omega, rfl, by go_num, hnext, _, rfl⟩
          · go_wp2
            go_roundg 0
            case measure => omega
            case rel => exact ⟨2, k1, x1, rfl, by omega, by go_num, rfl, rfl, hk1m, HS.out, .inr (.inr ⟨rfl, hlt⟩), _, rfl⟩
      · have hge : ¬ (k : Int) < (n : Int) / 2 := by rcases HI.out with h | h | h <;> omega
        have hres : scan C (n / 2 - k0) k0 h0 = ⟨false, 0, 0, k, x⟩ := by
          rw [HS.out]; exact scan_done C _ _ _ (by omega)
        have HRES : Hid (scan C (n / 2 - k0) k0 h0 = ⟨false, 0, 0, k, x⟩) := hres
        clear HI HS hres
        go_wp2
        go_ret2
        exact ⟨by rw [HRES.out]; rfl, by rw [HRES.out]; exact left1 _ _ _ _ _ s1, by rw [HRES.out]; exact left2 _ _ _ _ _ s2, ((below_drewN HB.out _).setCell (Nat.le_refl _) _).setCell (Nat.le_refl _) _⟩

end Go.Proofs.Qxb6618451a
