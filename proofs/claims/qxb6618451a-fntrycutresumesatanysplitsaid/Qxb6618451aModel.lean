/-
  THE WALK of zzCutModel.
-/
import Derived.Test.Qxb6618451aHash
import Derived.Deep.LoopGhost
namespace Go.Proofs.Qxb6618451a
open Go.RowKit

theorem quiet_add {P : Program} {f : FuncId} {args : Array Value} {w : World} {q x : Nat} {v : Value}
    (h : Calls P f args (w.drewN (q + x)) fun e w' => e = .returned v ∧ ∃ m, w' = (w.drewN (q + x)).drewN m) : Calls P f args (w.drewN (q + x)) fun e w'' => e = .returned v ∧ ∃ n, w'' = w.drewN (q + n) :=
  h.mono fun _ _ ⟨he, m, hm⟩ => ⟨he, x + m, by rw [hm, World.drewN_drewN, Nat.add_assoc]⟩

theorem results_tmp5 {fn : Func} {t u v x y : Tmp} (h : fn.results = #[.tmp t, .tmp u, .tmp v, .tmp x, .tmp y]) (tmps : Array Value) (P : Program) (w : World) :
    (results fn tmps).run P w = .ok (.tuple #[tmps.getD t undef, tmps.getD u undef, tmps.getD v undef, tmps.getD x undef, tmps.getD y undef]) w := by
  simp [results, h]

/-- The model's five results. -/
def tup5 (r : Out) : Value := .tuple #[.bool r.cut, .int .i64 r.n, .int .u64 r.fp, .int .i64 r.k, .int .u64 r.h]

set_option maxHeartbeats 400000 in
/-- No step to take. -/
theorem model_idle (C : Ctx) (mn av h0 : Int) (k0 n cap : Nat) (a : Option Addr) (p1 p2 p3 : Value) (w : World) (hn : n ≤ 1048576) (hk0 : n / 2 ≤ k0) (hmax : k0 ≤ 9223372036854775807) :
    Calls Try.prog 7 #[.int .i64 mn, .int .i64 av, p1, p2, p3, .int .i64 k0, .int .u64 h0, .slice a n cap] w fun e w' => e = .returned (tup5 (scan C (n / 2 - k0) k0 h0)) ∧ ∃ q, w' = w.drewN q := by
  rw [scan_done C _ _ _ hk0]
  have hk : ¬ (k0 : Int) < (n : Int) / 2 := by omega
  go_enter Try.func7, Try.ntmps7
  go_wp2
  refine wp_loop_rounds 1 ?_
  rw [rounds_succ]
  go_wp2
  (try simp only [Exit.inBlock, Exit.then]); refine bodyPost_ret (results_tmp5 rfl _ _ _) rfl ?_
  exact ⟨rfl, 0, rfl⟩

set_option maxRecDepth 20000 in
set_option maxHeartbeats 2000000 in
theorem model_any (C : Ctx) (mn av h0 : Int) (k0 : Nat) (bd n cap bg bs bm : Nat) (w : World) (hn : n ≤ 1048576) (hk0 : k0 < n / 2) (l0 : 0 ≤ h0) (l1 : h0 < 18446744073709551616) (hD : Hid (Bytes w bd n C.D)) (hr : Hid (∀ i, 0 ≤ C.D i ∧ C.D i ≤ 255)) (hg : Hid (Table w bg 0 C.g)) (hs : Hid (Table w bs 0 C.s))
    (hm0 : w.cell? ⟨bm, 0, none⟩ = some (.int .u64 C.m0)) (hm1 : w.cell? ⟨bm, 1, none⟩ = some (.int .u64 C.m1)) (hav : Hid (C.av = wrap64 (av.tdiv 2))) (hmh : Hid (C.mh = wrap64 (mn.tdiv 2))) :
    Calls Try.prog 7 #[.int .i64 mn, .int .i64 av, .pointer (some ⟨bg, 0, none⟩), .pointer (some ⟨bs, 0, none⟩), .pointer (some ⟨bm, 0, none⟩), .int .i64 k0, .int .u64 h0, .slice (some ⟨bd, 0, none⟩) n cap] w fun e w' => e = .returned (tup5 (scan C (n / 2 - k0) k0 h0)) ∧ ∃ q, w' = w.drewN q := by
  have HL : Hid (0 ≤ h0 ∧ h0 < 18446744073709551616) := ⟨l0, l1⟩
  clear l0 l1
  go_enter Try.func7, Try.ntmps7
  go_wp2
  go_loopg [22] (n / 2 - k0) (fun gm i wr => ∃ (k : Nat), gm = n / 2 - k ∧ k0 ≤ k ∧ k ≤ n / 2 ∧ i = .int .i64 k ∧ Hid (scan C (n / 2 - k0) k0 h0 = scan C (n / 2 - k) k (H C h0 k0 (k - k0))) ∧ ∃ q, wr = w.drewN q)
  case atStart => exact ⟨k0, rfl, by omega, by omega, rfl, by show _ = _; rw [Nat.sub_self]; rfl, 0, rfl⟩
  case round =>
    obtain ⟨k, rfl, hk, hkn, rfl, HS, q, rfl⟩ := hrel
    by_cases hlt : k < n / 2
    · have hlt' : (k : Int) < (n : Int) / 2 := by omega
      obtain ⟨j, hj⟩ : ∃ j : Nat, (k : Int) - (k0 : Int) = (j : Int) := ⟨k - k0, by omega⟩
      obtain ⟨x, hx⟩ : ∃ x, x = H C h0 k0 (k - k0) := ⟨_, rfl⟩
      have HX : Hid (x = H C h0 k0 (k - k0)) := hx
      have HCALL : Hid (∀ m : Nat, Calls Try.prog 10 #[.int .u64 h0, .int .i64 k0, .int .i64 j, .slice (some ⟨bd, 0, none⟩) n cap, .pointer (some ⟨bg, 0, none⟩), .pointer (some ⟨bs, 0, none⟩)] (w.drewN m) fun e w' => e = .returned (.int .u64 x) ∧ ∃ q, w' = (w.drewN m).drewN q) := fun m => by
        have := hash_any C h0 k0 j bd n cap bg bs (w.drewN m) hn (by omega) hD hr hg hs
        rw [hashW_eq C h0 k0 j HL.out.1 HL.out.2, show j = k - k0 by omega, ← hx] at this
        rw [show j = k - k0 by omega]
        exact this
      have d1 := hr.out (2 * k)
      have d2 := hr.out (2 * k + 1)
      have c1 := hD.out (2 * k) (by omega)
      have c2 := hD.out (2 * k + 1) (by omega)
      obtain ⟨y1, hy1⟩ : ∃ y1, y1 = C.D (2 * k) := ⟨_, rfl⟩
      obtain ⟨y2, hy2⟩ : ∃ y2, y2 = C.D (2 * k + 1) := ⟨_, rfl⟩
      rw [← hy1] at c1 d1
      rw [← hy2] at c2 d2
      have c3 : w.cell? ⟨bs, y1.toNat, none⟩ = some (.int .u64 (sAt C k)) := by
        have := hs.out y1.toNat (by omega)
        rw [Nat.zero_add] at this
        rw [this, hy1]; rfl
      have c4 : w.cell? ⟨bg, y2.toNat, none⟩ = some (.int .u64 (gAt C k)) := by
        have := hg.out y2.toNat (by omega)
        rw [Nat.zero_add] at this
        rw [this, hy2]; rfl
      have hi1 : (2 * (k : Int)) < (n : Int) := by omega
      have hi2 : (2 * (k : Int)) + 1 < (n : Int) := by omega
      have hi3 : (y1 : Int) < 256 := by omega
      have hi4 : (y2 : Int) < 256 := by omega
      have hi5 : (0 : Int) ≤ y1 := by omega
      have hi6 : (0 : Int) ≤ y2 := by omega
      clear hy1 hy2 d1 d2 hx
      by_cases hA : (k : Int) < wrap64 (av.tdiv 2)
      · have hmk : mask C k = C.m0 := by rw [mask, hav.out, if_pos hA]
        by_cases fA : hitA (mid C k x) (mask C k) = true
        · have fa : (bits BinOp.and IntKind.u64 (IntKind.u64.wrap (IntKind.u64.wrap (x * 4) + sAt C k)) (IntKind.u64.wrap (C.m0 * 2)) == 0) = true := by rw [hmk] at fA; exact fA
          have hres : scan C (n / 2 - k0) k0 h0 = ⟨true, 2 * k, mid C k x, wrap64 (mn.tdiv 2), 0⟩ := by
            rw [HS.out, ← HX.out, ← hmh.out]; exact scan_a C _ k x hlt fA
          have HRES : Hid (scan C (n / 2 - k0) k0 h0 = ⟨true, 2 * k, mid C k x, wrap64 (mn.tdiv 2), 0⟩) := hres
          clear hmk fA hres HS HX
          go_wp2
          go_quiet ((go_at_call 10; refine quiet_add (HCALL.out _)))
          clear HCALL
          go_wp2
          (try simp only [Exit.inBlock, Exit.then]); refine bodyPost_ret (results_tmp5 rfl _ _ _) rfl ?_
          exact ⟨by rw [HRES.out]; rfl, _, rfl⟩
        · have fA' : hitA (mid C k x) (mask C k) = false := by simpa using fA
          have fa : (bits BinOp.and IntKind.u64 (IntKind.u64.wrap (IntKind.u64.wrap (x * 4) + sAt C k)) (IntKind.u64.wrap (C.m0 * 2)) == 0) = false := by rw [hmk] at fA'; exact fA'
          by_cases fB : hitB (fin C k (mid C k x)) (mask C k) = true
          · have fb : (bits BinOp.and IntKind.u64 (IntKind.u64.wrap (IntKind.u64.wrap (IntKind.u64.wrap (x * 4) + sAt C k) + gAt C k)) C.m0 == 0) = true := by rw [hmk] at fB; exact fB
            have hres : scan C (n / 2 - k0) k0 h0 = ⟨true, 2 * k + 1, fin C k (mid C k x), wrap64 (mn.tdiv 2), 0⟩ := by
              rw [HS.out, ← HX.out, ← hmh.out]; exact scan_b C _ k x hlt fA' fB
            have HRES : Hid (scan C (n / 2 - k0) k0 h0 = ⟨true, 2 * k + 1, fin C k (mid C k x), wrap64 (mn.tdiv 2), 0⟩) := hres
            clear hmk fA fA' fB hres HS HX
            go_wp2
            go_quiet ((go_at_call 10; refine quiet_add (HCALL.out _)))
            clear HCALL
            go_wp2
            go_quiet (fail)
            go_wp2
            (try simp only [Exit.inBlock, Exit.then]); refine bodyPost_ret (results_tmp5 rfl _ _ _) rfl ?_
            exact ⟨by rw [HRES.out]; rfl, _, rfl⟩
          · have fB' : hitB (fin C k (mid C k x)) (mask C k) = false := by simpa using fB
            have fb : (bits BinOp.and IntKind.u64 (IntKind.u64.wrap (IntKind.u64.wrap (IntKind.u64.wrap (x * 4) + sAt C k) + gAt C k)) C.m0 == 0) = false := by rw [hmk] at fB'; exact fB'
            have hnext : Hid (scan C (n / 2 - k0) k0 h0 = scan C (n / 2 - (k + 1)) (k + 1) (H C h0 k0 (k + 1 - k0))) := by
              show _ = _
              rw [HS.out, ← HX.out, scan_c C _ k x hlt fA' fB', show k + 1 - k0 = (k - k0) + 1 by omega, H, ← HX.out, show k0 + (k - k0) = k by omega]
            clear hmk fA fA' fB fB' HS HX
            go_wp2
            go_quiet ((go_at_call 10; refine quiet_add (HCALL.out _)))
            clear HCALL hj
            go_wp2
            go_quiet (fail)
            clear c1 c2 c3 c4 hi1 hi2 hi3 hi4 hi5 hi6 fa
            go_wp2
            go_roundg (n / 2 - (k + 1))
            case measure => omega
            case rel => exact ⟨k + 1, rfl, by omega, by omega, by go_num, hnext, _, rfl⟩
      · have hmk : mask C k = C.m1 := by rw [mask, hav.out, if_neg hA]
        by_cases fA : hitA (mid C k x) (mask C k) = true
        · have fa : (bits BinOp.and IntKind.u64 (IntKind.u64.wrap (IntKind.u64.wrap (x * 4) + sAt C k)) (IntKind.u64.wrap (C.m1 * 2)) == 0) = true := by rw [hmk] at fA; exact fA
          have hres : scan C (n / 2 - k0) k0 h0 = ⟨true, 2 * k, mid C k x, wrap64 (mn.tdiv 2), 0⟩ := by
            rw [HS.out, ← HX.out, ← hmh.out]; exact scan_a C _ k x hlt fA
          have HRES : Hid (scan C (n / 2 - k0) k0 h0 = ⟨true, 2 * k, mid C k x, wrap64 (mn.tdiv 2), 0⟩) := hres
          clear hmk fA hres HS HX
          go_wp2
          go_quiet ((go_at_call 10; refine quiet_add (HCALL.out _)))
          clear HCALL
          go_wp2
          (try simp only [Exit.inBlock, Exit.then]); refine bodyPost_ret (results_tmp5 rfl _ _ _) rfl ?_
          exact ⟨by rw [HRES.out]; rfl, _, rfl⟩
        · have fA' : hitA (mid C k x) (mask C k) = false := by simpa using fA
          have fa : (bits BinOp.and IntKind.u64 (IntKind.u64.wrap (IntKind.u64.wrap (x * 4) + sAt C k)) (IntKind.u64.wrap (C.m1 * 2)) == 0) = false := by rw [hmk] at fA'; exact fA'
          by_cases fB : hitB (fin C k (mid C k x)) (mask C k) = true
          · have fb : (bits BinOp.and IntKind.u64 (IntKind.u64.wrap (IntKind.u64.wrap (IntKind.u64.wrap (x * 4) + sAt C k) + gAt C k)) C.m1 == 0) = true := by rw [hmk] at fB; exact fB
            have hres : scan C (n / 2 - k0) k0 h0 = ⟨true, 2 * k + 1, fin C k (mid C k x), wrap64 (mn.tdiv 2), 0⟩ := by
              rw [HS.out, ← HX.out, ← hmh.out]; exact scan_b C _ k x hlt fA' fB
            have HRES : Hid (scan C (n / 2 - k0) k0 h0 = ⟨true, 2 * k + 1, fin C k (mid C k x), wrap64 (mn.tdiv 2), 0⟩) := hres
            clear hmk fA fA' fB hres HS HX
            go_wp2
            go_quiet ((go_at_call 10; refine quiet_add (HCALL.out _)))
            clear HCALL
            go_wp2
            go_quiet (fail)
            go_wp2
            (try simp only [Exit.inBlock, Exit.then]); refine bodyPost_ret (results_tmp5 rfl _ _ _) rfl ?_
            exact ⟨by rw [HRES.out]; rfl, _, rfl⟩
          · have fB' : hitB (fin C k (mid C k x)) (mask C k) = false := by simpa using fB
            have fb : (bits BinOp.and IntKind.u64 (IntKind.u64.wrap (IntKind.u64.wrap (IntKind.u64.wrap (x * 4) + sAt C k) + gAt C k)) C.m1 == 0) = false := by rw [hmk] at fB'; exact fB'
            have hnext : Hid (scan C (n / 2 - k0) k0 h0 = scan C (n / 2 - (k + 1)) (k + 1) (H C h0 k0 (k + 1 - k0))) := by
              show _ = _
              rw [HS.out, ← HX.out, scan_c C _ k x hlt fA' fB', show k + 1 - k0 = (k - k0) + 1 by omega, H, ← HX.out, show k0 + (k - k0) = k by omega]
            clear hmk fA fA' fB fB' HS HX
            go_wp2
            go_quiet ((go_at_call 10; refine quiet_add (HCALL.out _)))
            clear HCALL hj
            go_wp2
            go_quiet (fail)
            clear c1 c2 c3 c4 hi1 hi2 hi3 hi4 hi5 hi6 fa
            go_wp2
            go_roundg (n / 2 - (k + 1))
            case measure => omega
            case rel => exact ⟨k + 1, rfl, by omega, by omega, by go_num, hnext, _, rfl⟩
    · have ek : k = n / 2 := by omega
      subst ek
      have hk' : ¬ ((n / 2 : Nat) : Int) < (n : Int) / 2 := by omega
      have hres : scan C (n / 2 - k0) k0 h0 = ⟨false, 0, 0, (n / 2 : Nat), H C h0 k0 (n / 2 - k0)⟩ := by
        rw [HS.out]; exact scan_done C _ _ _ (Nat.le_refl _)
      have HRES : Hid (scan C (n / 2 - k0) k0 h0 = ⟨false, 0, 0, (n / 2 : Nat), H C h0 k0 (n / 2 - k0)⟩) := hres
      clear hres HS
      obtain ⟨j, hj⟩ : ∃ j : Nat, (n : Int) / 2 - (k0 : Int) = (j : Int) := ⟨n / 2 - k0, by omega⟩
      go_wp2_with fail
      have hcall := hash_any C h0 k0 j bd n cap bg bs (w.drewN q) hn (by omega) hD hr hg hs
      rw [hashW_eq C h0 k0 j HL.out.1 HL.out.2] at hcall
      refine hcall.mono ?_
      clear hcall
      rintro e w' ⟨rfl, q', rfl⟩
      have ej : j = n / 2 - k0 := by omega
      have HJ : Hid (j = n / 2 - k0) := ej
      clear ej
      go_wp2
      (try simp only [Exit.inBlock, Exit.then]); refine bodyPost_ret (results_tmp5 rfl _ _ _) rfl ?_
      exact ⟨by rw [HRES.out, ← HJ.out]; rfl, _, rfl⟩

end Go.Proofs.Qxb6618451a
