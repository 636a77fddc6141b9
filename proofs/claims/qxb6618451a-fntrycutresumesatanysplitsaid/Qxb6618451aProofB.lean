/-
  THE ROW of FnTryCutResumesAtAnySplit.
-/
import Derived.Test.Qxb6618451aLawBC
import Derived.Test.Qxb6618451aLawBN
import Derived.Test.Qxb6618451aOpen
import Derived.ShutString
import Derived.ChangeOld
import Derived.Below
namespace Go.Proofs.Qxb6618451a.fnTryCutResumesAtAnySplit
open Go.ChangeShapes Go.WideShapes Go.ChangeAt Go.RowKit

theorem walk (mn av mx st h0 pp : Int) (G S : Array Value) (g s m : Nat → Int) (a : Option Addr) (len cap : Nat) (zs : List Int) (w : World) (hG : G.size = 256) (hS : S.size = 256)
    (gc : ∀ i, i < 256 → G[i]? = some (.int .u64 (g i))) (sc : ∀ i, i < 256 → S[i]? = some (.int .u64 (s i))) (wa : (Lit.int .i64 av).wf = true) (ws : (Lit.int .i64 st).wf = true) (wh : (Lit.int .u64 h0).wf = true) (hz : IsRow .u8 w a len cap zs) :
    Calls Try.prog 4 #[.int .i64 mn, .int .i64 av, .int .i64 mx, .agg G, .agg S, .agg #[.int .u64 (m 0), .int .u64 (m 1)], .int .i64 st, .int .u64 h0, .slice a len cap, .int .i64 pp] w fun e w' => e = .returned (.bool true) ∧ Below w.heap.size w w' := by
  have hm : len ≤ maxLen := by
    rcases hz with ⟨_, rfl, _, _⟩ | ⟨_, _, hl, hm, _⟩
    · exact Nat.zero_le _
    · omega
  by_cases hlong : 1048576 < len
  · exact lawB_long a len cap mn av mx st h0 pp G S ⟨(zs.getD · 0), g, s, m 0, m 1, wrap64 (av.tdiv 2), wrap64 (mn.tdiv 2)⟩ w hG hS hm hlong
  have va := bounds_i64 wa
  have vs := bounds_i64 ws
  have vh := bounds_u64 wh
  by_cases hst : st < 0
  · exact lawB_neg a len cap mn av mx st h0 pp G S ⟨(zs.getD · 0), g, s, m 0, m 1, wrap64 (av.tdiv 2), wrap64 (mn.tdiv 2)⟩ w hG hS (by omega) hst
  by_cases hpp : pp < 0 ∨ (len : Int) < pp
  · exact lawB_out a len cap mn av mx st h0 pp G S ⟨(zs.getD · 0), g, s, m 0, m 1, wrap64 (av.tdiv 2), wrap64 (mn.tdiv 2)⟩ w hG hS (by omega) (by omega) hpp
  obtain ⟨k0, rfl⟩ : ∃ k0 : Nat, st = k0 := ⟨st.toNat, by omega⟩
  obtain ⟨p, rfl⟩ : ∃ p : Nat, pp = p := ⟨pp.toNat, by omega⟩
  rcases hz with ⟨rfl, rfl, rfl, rfl⟩ | ⟨x, rfl, hl, _, hz, hcell, hwz⟩
  · obtain rfl : p = 0 := by omega
    exact lawB_nil ⟨(([] : List Int).getD · 0), g, s, m 0, m 1, wrap64 (av.tdiv 2), wrap64 (mn.tdiv 2)⟩ k0 mn av mx h0 G S w hG hS gc sc (by omega) (fun i => by show 0 ≤ ([] : List Int).getD i 0 ∧ _; simp) va rfl rfl
  · exact lawB_copy ⟨(zs.getD · 0), g, s, m 0, m 1, wrap64 (av.tdiv 2), wrap64 (mn.tdiv 2)⟩ len cap k0 p x zs mn av mx h0 G S w hG hS gc sc (by omega) (by omega) (by omega) (by omega) (fun i => by have := range_u8 hwz i; simpa using this) va rfl rfl (by omega) hcell rfl (by omega)

set_option maxRecDepth 100000 in
theorem lifted (os : Os) (started : os.Started) (H : Type) (enc : TypeId × Value → H) :
    ReturnsInHanded {} Try.checked os 4 .any (Rows.fnTryCutResumesAtAnySplitSpec.pre6 enc Try.prog Try.f4 Rows.fnTryCutResumesAtAnySplitRow.domain false) (Rows.fnTryCutResumesAtAnySplitSpec.post enc Try.prog Try.f4 false true false false) := by
  refine returnsInHanded_of_change (C := Try.checked) own started (by kernel_rfl) Try.func4
    (ChangeSpec.witness6 (enc := enc) (C := Try.checked) false ⟨#[], #[.int .i64 0, .int .i64 0, .int .i64 0, .agg (Array.replicate 256 (.int .u64 0)), .agg (Array.replicate 256 (.int .u64 0)), .agg #[.int .u64 0, .int .u64 0], .int .i64 0, .int .u64 0, .slice none 0 0, .int .i64 0], []⟩ 8 (by kernel_rfl) (by kernel_rfl) (by kernel_rfl) (by kernel_rfl)) ?_
  intro W base args ds gs before hval0 hW hcnd _
  have hval : ∀ (j : Nat) t v, Try.f4.params[j]? = some t → args[j]? = some v → Value.okWide Try.prog W .any base t v := hval0
  have hW' := hW
  obtain ⟨p, q, hA0, hV, rfl, hfz, hnd⟩ := hW
  have hA : DataW.TrodAll enc Try.prog W 0 (fun _ => true) true Try.f4.params.toList args.toList ds p := hA0
  rw [Try.params4] at hA hval
  obtain ⟨v0, vs0, d0, ds0, p0, q0, hargs, rfl, rfl, h0, r0⟩ := trodAll_cons hA
  obtain ⟨v1, vs1, d1, ds1, p1, q1, rfl, rfl, rfl, h1, r1⟩ := trodAll_cons r0
  obtain ⟨v2, vs2, d2, ds2, p2, q2, rfl, rfl, rfl, h2, r2⟩ := trodAll_cons r1
  obtain ⟨v3, vs3, d3, ds3, p3, q3, rfl, rfl, rfl, h3, r3⟩ := trodAll_cons r2
  obtain ⟨v4, vs4, d4, ds4, p4, q4, rfl, rfl, rfl, h4, r4⟩ := trodAll_cons r3
  obtain ⟨v5, vs5, d5, ds5, p5, q5, rfl, rfl, rfl, h5, r5⟩ := trodAll_cons r4
  obtain ⟨v6, vs6, d6, ds6, p6, q6, rfl, rfl, rfl, h6, r6⟩ := trodAll_cons r5
  obtain ⟨v7, vs7, d7, ds7, p7, q7, rfl, rfl, rfl, h7, r7⟩ := trodAll_cons r6
  obtain ⟨v8, vs8, d8, ds8, p8, q8, rfl, rfl, rfl, h8, r8⟩ := trodAll_cons r7
  obtain ⟨v9, vs9, d9, ds9, p9, q9, rfl, rfl, rfl, h9, r9⟩ := trodAll_cons r8
  obtain ⟨rfl, rfl, rfl⟩ := trodAll_nil r9
  obtain rfl : args = #[v0, v1, v2, v3, v4, v5, v6, v7, v8, v9] := by cases args; simp_all
  obtain ⟨rfl, rfl⟩ := trodVars_none hV
  have lt3 : ∀ x ∈ p3, x.block < W.heap.size := by obtain ⟨m, hm⟩ := h3; exact DataW.trod_lt m _ _ _ hm
  have lt4 : ∀ x ∈ p4, x.block < W.heap.size := by obtain ⟨m, hm⟩ := h4; exact DataW.trod_lt m _ _ _ hm
  have lt5 : ∀ x ∈ p5, x.block < W.heap.size := by obtain ⟨m, hm⟩ := h5; exact DataW.trod_lt m _ _ _ hm
  have lt8 : ∀ x ∈ p8, x.block < W.heap.size := by obtain ⟨m, hm⟩ := h8; exact DataW.trod_lt m _ _ _ hm
  obtain ⟨mn, rfl, rfl, rfl, w0⟩ := open_int Try.underlying3 (hval 0 3 v0 rfl rfl) h0
  obtain ⟨av, rfl, rfl, rfl, w1⟩ := open_int Try.underlying3 (hval 1 3 v1 rfl rfl) h1
  obtain ⟨mx, rfl, rfl, rfl, w2⟩ := open_int Try.underlying3 (hval 2 3 v2 rfl rfl) h2
  obtain ⟨G, g, rfl, hG, gc⟩ := open_words Try.underlying23 Try.underlying22 (by kernel_rfl) (by kernel_rfl) (hval 3 23 v3 rfl rfl) h3
  obtain ⟨S, s, rfl, hS, sc⟩ := open_words Try.underlying23 Try.underlying22 (by kernel_rfl) (by kernel_rfl) (hval 4 23 v4 rfl rfl) h4
  obtain ⟨M, m, rfl, hM, mc⟩ := open_words Try.underlying24 Try.underlying22 (by kernel_rfl) (by kernel_rfl) (hval 5 24 v5 rfl rfl) h5
  obtain rfl := pair_of hM mc
  obtain ⟨st, rfl, rfl, rfl, w6⟩ := open_int Try.underlying3 (hval 6 3 v6 rfl rfl) h6
  obtain ⟨hh, rfl, rfl, rfl, w7⟩ := open_int Try.underlying22 (hval 7 22 v7 rfl rfl) h7
  obtain ⟨a8, len8, cap8, rfl⟩ := okWide_slice Try.underlying25 (hval 8 25 v8 rfl rfl)
  have k8 := h8
  obtain ⟨z8, w8⟩ : ∃ zs, IsRow .u8 W a8 len8 cap8 zs := by
    obtain ⟨fuel, hf⟩ := h8
    rcases open_ints Try.underlying25 Try.underlying5 (by kernel_rfl) hf with ⟨hcs, _⟩ | ⟨x, l, c, zs, hcs, _, hl, hm, hz, _, hcell, hwz⟩
    · simp [Value.cells] at hcs
      obtain ⟨rfl, rfl, rfl⟩ := hcs
      exact ⟨[], .inl ⟨rfl, rfl, rfl, rfl⟩⟩
    · simp [Value.cells] at hcs
      obtain ⟨rfl, rfl, rfl⟩ := hcs
      exact ⟨zs, .inr ⟨_, rfl, hl, hm, by simpa using hz, hcell, hwz⟩⟩
  obtain ⟨pp, rfl, rfl, rfl, w9⟩ := open_int Try.underlying3 (hval 9 3 v9 rfl rfl) h9
  clear hA0 hval0
  refine (walk mn av mx st hh pp G S g s m a8 len8 cap8 z8 W hG hS (fun i hi => (gc i hi).1) (fun i hi => (sc i hi).1) w1 w6 w7 w8).mono fun e W' ⟨he, bel⟩ => ?_
  subst he
  exact ⟨_, rfl, _, _, _, [], _, [], hW', trodAll_mk1 (shut_bool Try.underlying4 _), (trodAll_cons_mk (shut_int Try.underlying3 w0) (trodAll_cons_mk (shut_int Try.underlying3 w1) (trodAll_cons_mk (shut_int Try.underlying3 w2)
    (trodAll_cons_mk (Below.trod laidOut (by kernel_rfl) (of_decide_eq_true (by kernel_rfl)) h3 bel lt3) (trodAll_cons_mk (Below.trod laidOut (by kernel_rfl) (of_decide_eq_true (by kernel_rfl)) h4 bel lt4) (trodAll_cons_mk (Below.trod laidOut (by kernel_rfl) (of_decide_eq_true (by kernel_rfl)) h5 bel lt5)
    (trodAll_cons_mk (shut_int Try.underlying3 w6) (trodAll_cons_mk (shut_int Try.underlying22 w7) (trodAll_cons_mk (Below.trod laidOut (by kernel_rfl) (of_decide_eq_true (by kernel_rfl)) k8 bel lt8) (trodAll_cons_mk (shut_int Try.underlying3 w9) trodAll_mk0)))))))))), rfl, bel.frame _, fun h => by cases h⟩

theorem over : Rows.fnTryCutResumesAtAnySplitRow.holds Try.pinned (OpenSpec.ofChange Rows.fnTryCutResumesAtAnySplitSpec) :=
  OpenClaim.holds_of_wide 4 Try.f4 rfl rfl rfl rfl rfl rfl rfl ⟨rfl, rfl, rfl, rfl, rfl⟩ rfl rfl rfl rfl rfl (by kernel_rfl) Try.func4 (by kernel_rfl)
    (of_decide_eq_true (by kernel_rfl)) (by unfold Func.isWrapper; first | (rw [if_pos (by decide +kernel)]; kernel_rfl) | (rw [if_neg (by decide +kernel)]; exact ⟨rfl, rfl⟩))
    (fun os started H enc _ => lifted os started H enc)

/-- THE STATEMENT. -/
theorem proved : Rows.FnTryCutResumesAtAnySplitSaid := over
end Go.Proofs.Qxb6618451a.fnTryCutResumesAtAnySplit
