/-
  THE WALK of FnIntIDNegationAddsMinusSign.
-/
import Derived.Test.Qxb6618396aDoorWalks
import Derived.Lib.SmallJoins
namespace Go.Proofs.Qxb6618396aDoor
open Go.RowKit

theorem gTab : Tryd.prog.globalNamed tabName = some 0 := by kernel_rfl

set_option maxHeartbeats 400000 in
theorem neg_min (w : World) :
    Calls Tryd.prog 4 #[.int .i64 (-9223372036854775808)] w fun e w' => e = .returned (.bool true) ∧ Below w.heap.size w w' := by
  go_enter Tryd.func4, Tryd.ntmps4
  go_wp2
  go_ret
  exact ⟨rfl, Below.refl _ _⟩

theorem txt_size (n : Int) : (txt n).size = (Lib.itoa n).length := by
  show (Lib.itoa n).toArray.size = _; simp

theorem txt_pos (n : Int) (h0 : 0 < n) (h1 : n ≤ 9223372036854775807) :
    (txt n).size ≤ 19 ∧ ∃ h : 0 < (txt n).size, (49 : Int) ≤ ((txt n)[0].toNat : Int) ∧ ((txt n)[0].toNat : Int) ≤ 57 := by
  have e : Lib.itoa n = Lib.decDigits n.toNat := by unfold Lib.itoa; rw [if_neg (by omega)]
  obtain ⟨c, r, hc, c0, c1⟩ := dec_head n.toNat (by omega)
  have hl := dec_len n.toNat (by omega)
  have hs := txt_size n
  rw [e, hc] at hs
  rw [hc] at hl
  refine ⟨by omega, by simp at hs; omega, ?_⟩
  have hg : (txt n)[0]'(by simp at hs; omega) = c := by
    show (Lib.itoa n).toArray[0]'_ = c
    simp [e, hc]
  rw [hg]; omega

theorem txt_neg (n : Int) (h0 : 0 < n) : txt (-n) = (⟨#[45]⟩ : ByteArray) ++ txt n := by
  have e1 : Lib.itoa n = Lib.decDigits n.toNat := by unfold Lib.itoa; rw [if_neg (by omega)]
  have e2 : Lib.itoa (-n) = 45 :: Lib.decDigits n.toNat := by
    unfold Lib.itoa; rw [if_pos (by omega), show (-n).natAbs = n.toNat by omega]
  apply ByteArray.ext
  rw [ByteArray.data_append]
  simp [txt, e1, e2]

set_option maxHeartbeats 400000 in
theorem neg_pos (n : Int) (h0 : 0 < n) (h1 : n ≤ 9223372036854775807) (w : World) (htab : Lib.TabIs Tryd.prog w tabName .u64 Lib.pow10Tab) :
    Calls Tryd.prog 4 #[.int .i64 n] w fun e w' => e = .returned (.bool true) ∧ Below w.heap.size w w' := by
  go_enter Tryd.func4, Tryd.ntmps4
  go_wp2_with fail
  refine (intID_any n (by omega) h1 _ htab).mono ?_
  rintro e w1 ⟨rfl, hb1⟩
  have ht1 := Go.Joins.tab_stays gTab htab hb1 (Nat.le_refl _)
  go_wp2_with fail
  refine (intID_any (-n) (by omega) (by omega) _ (Lib.tabIs_alloc ht1 _)).mono ?_
  rintro e w2 ⟨rfl, hb2⟩
  obtain ⟨s, hs⟩ : ∃ s, s = txt n := ⟨_, rfl⟩
  obtain ⟨t, ht⟩ : ∃ t, t = txt (-n) := ⟨_, rfl⟩
  rw [← hs, ← ht]
  have hA0 : w2.cell? ⟨w1.heap.size, 0, none⟩ = some (.int .u8 2) := by
    rw [hb2.cell (by simp)]; simp [go_sem]
  have hA1 : w2.cell? ⟨w1.heap.size, 1, none⟩ = some (.string s) := by
    rw [hb2.cell (by simp), hs]; simp [go_sem]
  have hz : w1.heap.size < w2.heap.size := by have := hb2.size; simp at this; omega
  have hz1 : w1.heap.size < w2.heap.size + 1 := by omega
  have hz2 : w1.heap.size < w2.heap.size + 1 + 1 := by omega
  have hz3 : w1.heap.size < w2.heap.size + 1 + 1 + 1 := by omega
  have hz4 : w1.heap.size < w2.heap.size + 1 + 1 + 1 + 1 := by omega
  obtain ⟨s19, s0, s49, s57⟩ : s.size ≤ 19 ∧ ∃ h : 0 < s.size, (49 : Int) ≤ (s[0].toNat : Int) ∧ (s[0].toNat : Int) ≤ 57 := hs ▸ txt_pos n h0 h1
  have sne : ¬ s = ByteArray.empty := by intro e; rw [e] at s0; simp at s0
  have sE : ((s.size : Int) == 0) = false := by simp; omega
  have tE : (t.toList == ((⟨#[45]⟩ : ByteArray) ++ s).toList) = true := by rw [ht, hs, txt_neg n h0]; simp
  clear hs ht ht1 htab
  go_wp2
  go_ret
  refine ⟨rfl, ?_⟩
  have hB : Below w.heap.size w w2 := (hb1.alloc hb1.size _).trans (hb2.mono (by have := hb1.size; simp; omega))
  have hsz := hB.size
  exact ((((hB.alloc (by simpa using hsz) _).alloc (by simp; omega) _).alloc (by simp; omega) _).alloc (by simp; omega) _).alloc (by simp; omega) _

set_option maxHeartbeats 400000 in
theorem neg_neg (n : Int) (h0 : -9223372036854775807 ≤ n) (h1 : n < 0) (w : World) (htab : Lib.TabIs Tryd.prog w tabName .u64 Lib.pow10Tab) :
    Calls Tryd.prog 4 #[.int .i64 n] w fun e w' => e = .returned (.bool true) ∧ Below w.heap.size w w' := by
  go_enter Tryd.func4, Tryd.ntmps4
  go_wp2_with fail
  refine (intID_any n (by omega) (by omega) _ htab).mono ?_
  rintro e w1 ⟨rfl, hb1⟩
  have ht1 := Go.Joins.tab_stays gTab htab hb1 (Nat.le_refl _)
  go_wp2_with fail
  refine (intID_any (-n) (by omega) (by omega) _ (Lib.tabIs_alloc ht1 _)).mono ?_
  rintro e w2 ⟨rfl, hb2⟩
  obtain ⟨s, hs⟩ : ∃ s, s = txt n := ⟨_, rfl⟩
  obtain ⟨t, ht⟩ : ∃ t, t = txt (-n) := ⟨_, rfl⟩
  rw [← hs, ← ht]
  have hA0 : w2.cell? ⟨w1.heap.size, 0, none⟩ = some (.int .u8 2) := by
    rw [hb2.cell (by simp)]; simp [go_sem]
  have hA1 : w2.cell? ⟨w1.heap.size, 1, none⟩ = some (.string s) := by
    rw [hb2.cell (by simp), hs]; simp [go_sem]
  have hz : w1.heap.size < w2.heap.size := by have := hb2.size; simp at this; omega
  have hz1 : w1.heap.size < w2.heap.size + 1 := by omega
  have hz2 : w1.heap.size < w2.heap.size + 1 + 1 := by omega
  have hz3 : w1.heap.size < w2.heap.size + 1 + 1 + 1 := by omega
  have hz4 : w1.heap.size < w2.heap.size + 1 + 1 + 1 + 1 := by omega
  obtain ⟨t19, t0, t49, t57⟩ : t.size ≤ 19 ∧ ∃ h : 0 < t.size, (49 : Int) ≤ (t[0].toNat : Int) ∧ (t[0].toNat : Int) ≤ 57 := ht ▸ txt_pos (-n) (by omega) (by omega)
  have tne : ¬ t = ByteArray.empty := by intro e; rw [e] at t0; simp at t0
  have tE : ((t.size : Int) == 0) = false := by simp; omega
  have sE : (s.toList == ((⟨#[45]⟩ : ByteArray) ++ t).toList) = true := by
    have := txt_neg (-n) (by omega)
    rw [Int.neg_neg] at this
    rw [ht, hs, this]; simp
  clear hs ht ht1 htab
  go_wp2
  go_ret
  refine ⟨rfl, ?_⟩
  have hB : Below w.heap.size w w2 := (hb1.alloc hb1.size _).trans (hb2.mono (by have := hb1.size; simp; omega))
  have hsz := hB.size
  exact ((((hB.alloc (by simpa using hsz) _).alloc (by simp; omega) _).alloc (by simp; omega) _).alloc (by simp; omega) _).alloc (by simp; omega) _

set_option maxHeartbeats 400000 in
theorem neg_zero (w : World) (htab : Lib.TabIs Tryd.prog w tabName .u64 Lib.pow10Tab) :
    Calls Tryd.prog 4 #[.int .i64 0] w fun e w' => e = .returned (.bool true) ∧ Below w.heap.size w w' := by
  go_enter Tryd.func4, Tryd.ntmps4
  go_wp2_with fail
  refine (intID_any 0 (by omega) (by omega) _ htab).mono ?_
  rintro e w1 ⟨rfl, hb1⟩
  have ht1 := Go.Joins.tab_stays gTab htab hb1 (Nat.le_refl _)
  go_wp2_with fail
  refine (intID_any 0 (by omega) (by omega) _ (Lib.tabIs_alloc ht1 _)).mono ?_
  rintro e w2 ⟨rfl, hb2⟩
  obtain ⟨s, hs⟩ : ∃ s, s = txt 0 := ⟨_, rfl⟩
  rw [← hs]
  have hA0 : w2.cell? ⟨w1.heap.size, 0, none⟩ = some (.int .u8 2) := by
    rw [hb2.cell (by simp)]; simp [go_sem]
  have hA1 : w2.cell? ⟨w1.heap.size, 1, none⟩ = some (.string s) := by
    rw [hb2.cell (by simp), hs]; simp [go_sem]
  have hz : w1.heap.size < w2.heap.size := by have := hb2.size; simp at this; omega
  have hz1 : w1.heap.size < w2.heap.size + 1 := by omega
  have hz2 : w1.heap.size < w2.heap.size + 1 + 1 := by omega
  have hz3 : w1.heap.size < w2.heap.size + 1 + 1 + 1 := by omega
  have hz4 : w1.heap.size < w2.heap.size + 1 + 1 + 1 + 1 := by omega
  have s48 : s = ⟨#[48]⟩ := by
    rw [hs]; apply ByteArray.ext; simp [txt, Lib.itoa, dec_zero]
  clear hs ht1 htab
  subst s48
  go_wp2
  go_ret
  refine ⟨rfl, ?_⟩
  have hB : Below w.heap.size w w2 := (hb1.alloc hb1.size _).trans (hb2.mono (by have := hb1.size; simp; omega))
  have hsz := hB.size
  exact ((((hB.alloc (by simpa using hsz) _).alloc (by simp; omega) _).alloc (by simp; omega) _).alloc (by simp; omega) _).alloc (by simp; omega) _

end Go.Proofs.Qxb6618396aDoor
