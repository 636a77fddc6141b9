/-
  THE WALK of parseCanonicalDecimal at the text of an int64.
-/
import Derived.Test.Qxb6618396aDoorNeg
namespace Go.Proofs.Qxb6618396aDoor
open Go.RowKit

theorem mag_bound (l : List UInt8) (h : ∀ c ∈ l, 48 ≤ c.toNat ∧ c.toNat ≤ 57) : magOf l < 10 ^ l.length := by
  suffices hs : ∀ (l : List UInt8) (a : Nat), (∀ c ∈ l, 48 ≤ c.toNat ∧ c.toNat ≤ 57) → l.foldl (fun a c => a * 10 + (c.toNat - 48)) a < (a + 1) * 10 ^ l.length by
    have := hs l 0 h
    simpa [magOf] using this
  intro l
  induction l with
  | nil => intro a _; simp
  | cons c l ih =>
    intro a h
    have h1 := ih (a * 10 + (c.toNat - 48)) (fun x hx => h x (List.mem_cons_of_mem _ hx))
    have h2 := h c (by simp)
    simp only [List.foldl_cons, List.length_cons, Nat.pow_succ]
    have h3 : (a * 10 + (c.toNat - 48) + 1) * 10 ^ l.length ≤ ((a + 1) * 10) * 10 ^ l.length := Nat.mul_le_mul_right _ (by omega)
    have h4 : (a + 1) * (10 ^ l.length * 10) = ((a + 1) * 10) * 10 ^ l.length := by
      rw [Nat.mul_comm (10 ^ l.length) 10, Nat.mul_assoc]
    omega

/-- The value of the digits from place i up to k. -/
def pre (s : ByteArray) (i k : Nat) : Nat := magOf ((s.data.toList.drop i).take (k - i))

theorem pre_start (s : ByteArray) (i : Nat) : pre s i i = 0 := by simp [pre, magOf]

theorem pre_step (s : ByteArray) (i k : Nat) (hi : i ≤ k) (hk : k < s.size) : pre s i (k + 1) = pre s i k * 10 + (s[k].toNat - 48) := by
  have hl : k < s.data.toList.length := by simpa using hk
  unfold pre
  rw [show k + 1 - i = (k - i) + 1 by omega, List.take_succ_eq_append_getElem (by simp; omega), magOf_snoc]
  congr 2
  simp only [List.getElem_drop]
  congr 1
  have e : i + (k - i) = k := by omega
  simp only [e]
  rfl

theorem pre_bound (s : ByteArray) (i k : Nat) (hk : k ≤ s.size) (h18 : k ≤ i + 18) (hd : ∀ j (h : j < s.size), i ≤ j → 48 ≤ s[j].toNat ∧ s[j].toNat ≤ 57) : pre s i k ≤ 999999999999999999 := by
  have hb := mag_bound ((s.data.toList.drop i).take (k - i)) (by
    intro c hc
    obtain ⟨t, ht, rfl⟩ := List.mem_iff_getElem.1 hc
    have ht' : t < k - i ∧ i + t < s.size := by
      simp at ht
      have : s.data.size = s.size := rfl
      omega
    have := hd (i + t) ht'.2 (by omega)
    have e : ((s.data.toList.drop i).take (k - i))[t] = s[i + t]'ht'.2 := by
      simp only [List.getElem_take, List.getElem_drop]; rfl
    rw [e]; exact this)
  have hp : 10 ^ ((s.data.toList.drop i).take (k - i)).length ≤ 10 ^ 18 := Nat.pow_le_pow_right (by omega) (by simp; omega)
  unfold pre
  have : (10 : Nat) ^ 18 = 1000000000000000000 := by rfl
  omega

theorem pre_all (s : ByteArray) (i : Nat) : pre s i s.size = magOf (s.data.toList.drop i) := by
  unfold pre
  rw [List.take_of_length_le (by simp)]

set_option maxHeartbeats 400000 in
theorem parse_zero (w : World) : Calls Tryd.prog 7 #[.string (txt 0)] w fun e w' => e = .returned (.tuple #[.int .i64 0, .bool true]) ∧ w = w' := by
  have s48 : txt 0 = ⟨#[48]⟩ := by
    apply ByteArray.ext; simp [txt, Lib.itoa, dec_zero]
  rw [s48]
  go_enter Tryd.func7, Tryd.ntmps7
  go_wp2
  go_ret2
  exact ⟨rfl, rfl⟩

set_option maxHeartbeats 400000 in
theorem parse_pos (s : ByteArray) (n : Int) (w : World) (h19 : s.size ≤ 19) (h0 : 0 < s.size) (hd : Hid (∀ i (h : i < s.size), 0 ≤ i → 48 ≤ s[i].toNat ∧ s[i].toNat ≤ 57)) (h49 : (49 : Int) ≤ (s[0].toNat : Int)) (h57 : (s[0].toNat : Int) ≤ 57)
    (hm : Hid ((magOf s.data.toList : Int) = n)) (hn : n ≤ 9223372036854775807) :
    Calls Tryd.prog 7 #[.string s] w fun e w' => e = .returned (.tuple #[.int .i64 n, .bool true]) ∧ w = w' := by
  have sne : ¬ s = ByteArray.empty := by intro e; rw [e] at h0; simp at h0
  have sE : ((s.size : Int) == 0) = false := by simp; omega
  have sL : decide (20 < (s.size : Int)) = false := decide_eq_false (by omega)
  have b1 : ((s[0].toNat : Int) == 45) = false := by simp; omega
  have b2 : ((s[0].toNat : Int) == 48) = false := by simp; omega
  go_enter Tryd.func7, Tryd.ntmps7
  go_wp2
  go_loop [6, 7, 8] (fun m j c => ∃ (k : Nat) (a : Int), k ≤ s.size ∧ j = .int .i64 k ∧ m = .int .u64 a ∧ Hid (a = (pre s 0 k : Int))) (fun _ j _ => s.size - (intOf j).toNat)
  case atStart => exact ⟨0, 0, by omega, rfl, rfl, by rw [pre_start]; rfl⟩
  case round =>
    obtain ⟨k, a, hk, rfl, rfl, HA⟩ := hrel
    by_cases hlt : k < s.size
    · obtain ⟨d0, d1⟩ := hd.out k hlt (Nat.zero_le _)
      have hpb := pre_bound s 0 k hk (by omega) hd.out
      have a0 : 0 ≤ a := by rw [HA.out]; omega
      have a1 : a ≤ 999999999999999999 := by rw [HA.out]; omega
      have e0 : decide ((s[k].toNat : Int) < 48) = false := decide_eq_false (by omega)
      have e1 : decide ((57 : Int) < (s[k].toNat : Int)) = false := decide_eq_false (by omega)
      have d0' : (48 : Int) ≤ (s[k].toNat : Int) := by omega
      have d1' : (s[k].toNat : Int) ≤ 57 := by omega
      have HS : Hid (pre s 0 (k + 1) = pre s 0 k * 10 + (s[k].toNat - 48)) := pre_step s 0 k (Nat.zero_le _) hlt
      clear d0 d1 hpb
      go_wp2
      go_round
      case rel => exact ⟨k + 1, _, by omega, by go_num, rfl, by have h1 := HS.out; have h2 := HA.out; show _ = _; omega⟩
      case measure => simp [intOf]; omega
    · have ek : k = s.size := by omega
      obtain rfl : a = n := by
        have h1 := HA.out; have h2 := hm.out
        rw [ek, pre_all, List.drop_zero] at h1
        omega
      have a0 : 0 ≤ a := by have := HA.out; omega
      clear hd hm HA ek
      go_wp2
      go_ret2
      exact ⟨rfl, rfl⟩

set_option maxHeartbeats 800000 in
theorem parse_neg (s : ByteArray) (n : Int) (w : World) (h20 : s.size ≤ 20) (h1 : 1 < s.size) (hd : Hid (∀ i (h : i < s.size), 1 ≤ i → 48 ≤ s[i].toNat ∧ s[i].toNat ≤ 57)) (h45 : (s[0].toNat : Int) = 45) (h49 : (49 : Int) ≤ (s[1].toNat : Int)) (h57 : (s[1].toNat : Int) ≤ 57)
    (hm : Hid ((magOf (s.data.toList.drop 1) : Int) = n)) (hn : n ≤ 9223372036854775808) :
    Calls Tryd.prog 7 #[.string s] w fun e w' => e = .returned (.tuple #[.int .i64 (-n), .bool true]) ∧ w = w' := by
  have h0 : 0 < s.size := by omega
  have sne : ¬ s = ByteArray.empty := by intro e; rw [e] at h0; simp at h0
  have sE : ((s.size : Int) == 0) = false := by simp; omega
  have sL : decide (20 < (s.size : Int)) = false := decide_eq_false (by omega)
  have b1 : ((s[0].toNat : Int) == 45) = true := by simp [h45]
  have b2 : ((s[1].toNat : Int) == 48) = false := by simp; omega
  clear h45
  go_enter Tryd.func7, Tryd.ntmps7
  go_wp2
  go_loop [6, 7, 8] (fun m j c => ∃ (k : Nat) (a : Int), 1 ≤ k ∧ k ≤ s.size ∧ j = .int .i64 k ∧ m = .int .u64 a ∧ Hid (a = (pre s 1 k : Int))) (fun _ j _ => s.size - (intOf j).toNat)
  case atStart => exact ⟨1, 0, by omega, by omega, rfl, rfl, by rw [pre_start]; rfl⟩
  case round =>
    obtain ⟨k, a, hk1, hk, rfl, rfl, HA⟩ := hrel
    by_cases hlt : k < s.size
    · obtain ⟨d0, d1⟩ := hd.out k hlt hk1
      have hpb := pre_bound s 1 k hk (by omega) hd.out
      have a0 : 0 ≤ a := by rw [HA.out]; omega
      have a1 : a ≤ 999999999999999999 := by rw [HA.out]; omega
      have e0 : decide ((s[k].toNat : Int) < 48) = false := decide_eq_false (by omega)
      have e1 : decide ((57 : Int) < (s[k].toNat : Int)) = false := decide_eq_false (by omega)
      have d0' : (48 : Int) ≤ (s[k].toNat : Int) := by omega
      have d1' : (s[k].toNat : Int) ≤ 57 := by omega
      have HS : Hid (pre s 1 (k + 1) = pre s 1 k * 10 + (s[k].toNat - 48)) := pre_step s 1 k hk1 hlt
      clear d0 d1 hpb
      go_wp2
      go_round
      case rel => exact ⟨k + 1, _, by omega, by omega, by go_num, rfl, by have h1 := HS.out; have h2 := HA.out; show _ = _; omega⟩
      case measure => simp [intOf]; omega
    · have ek : k = s.size := by omega
      obtain rfl : a = n := by
        have h1 := HA.out; have h2 := hm.out
        rw [ek, pre_all] at h1
        omega
      have a0 : 0 ≤ a := by have := HA.out; omega
      clear hd hm HA ek
      by_cases hb : a = 9223372036854775808
      · subst hb
        go_wp2
        go_ret2
        exact ⟨rfl, rfl⟩
      · have hb' : (a == 9223372036854775808) = false := by simpa using hb
        have ha2 : a ≤ 9223372036854775807 := by omega
        clear hb hn
        go_wp2
        go_ret2
        exact ⟨rfl, rfl⟩

theorem txt_list (n : Int) : (txt n).data.toList = Lib.itoa n := by simp [txt]

theorem txt_at (n : Int) (i : Nat) (h : i < (txt n).size) : ∃ h' : i < (Lib.itoa n).length, (txt n)[i]'h = (Lib.itoa n)[i]'h' := by
  have hs := txt_size n
  refine ⟨by omega, ?_⟩
  rfl

theorem itoa_pos (n : Int) (h : 0 ≤ n) : Lib.itoa n = Lib.decDigits n.toNat := by unfold Lib.itoa; rw [if_neg (by omega)]
theorem itoa_minus (n : Int) (h : n < 0) : Lib.itoa n = 45 :: Lib.decDigits (-n).toNat := by
  unfold Lib.itoa; rw [if_pos h, show n.natAbs = (-n).toNat by omega]

theorem itoa_inj (a b : Int) (h : Lib.itoa a = Lib.itoa b) : a = b := by
  have key : ∀ m : Nat, ∀ r, Lib.decDigits m ≠ 45 :: r := by
    intro m r e
    have := dec_digit m 45 (by rw [e]; simp)
    simp at this
  by_cases ha : a < 0 <;> by_cases hb : b < 0
  · rw [itoa_minus a ha, itoa_minus b hb] at h
    have := congrArg magOf (List.cons.inj h).2
    rw [dec_mag, dec_mag] at this
    omega
  · rw [itoa_minus a ha, itoa_pos b (by omega)] at h
    exact absurd h.symm (key _ _)
  · rw [itoa_pos a (by omega), itoa_minus b hb] at h
    exact absurd h (key _ _)
  · rw [itoa_pos a (by omega), itoa_pos b (by omega)] at h
    have := congrArg magOf h
    rw [dec_mag, dec_mag] at this
    omega

theorem parse_any (n : Int) (h0 : -9223372036854775808 ≤ n) (h1 : n ≤ 9223372036854775807) (w : World) :
    Calls Tryd.prog 7 #[.string (txt n)] w fun e w' => e = .returned (.tuple #[.int .i64 n, .bool true]) ∧ w = w' := by
  by_cases hz : n = 0
  · subst hz; exact parse_zero w
  by_cases hp : 0 < n
  · obtain ⟨s19, s0, s49, s57⟩ := txt_pos n hp h1
    refine parse_pos (txt n) n w s19 s0 ?_ s49 s57 ?_ h1
    · intro i hi _
      obtain ⟨h', e⟩ := txt_at n i hi
      show 48 ≤ ((txt n)[i]'hi).toNat ∧ ((txt n)[i]'hi).toNat ≤ 57
      rw [e]
      have hm := List.getElem_mem h'
      have e2 := itoa_pos n (by omega)
      exact dec_digit n.toNat _ (e2 ▸ hm)
    · show (magOf (txt n).data.toList : Int) = n
      rw [txt_list, itoa_pos n (by omega), dec_mag]; omega
  · have hneg : n < 0 := by omega
    have e := itoa_minus n hneg
    obtain ⟨c, r, hc, c0, c1⟩ := dec_head (-n).toNat (by omega)
    have hl := dec_len (-n).toNat (by omega)
    have hs := txt_size n
    rw [e] at hs
    have hpos : 1 < (txt n).size := by rw [hs, hc]; simp
    have key := parse_neg (txt n) (-n) w (by rw [hs]; simp; omega) hpos ?_ ?_ ?_ ?_ ?_ (by omega)
    · rw [Int.neg_neg] at key; exact key
    · intro i hi h1i
      obtain ⟨h', e1⟩ := txt_at n i hi
      show 48 ≤ ((txt n)[i]'hi).toNat ∧ ((txt n)[i]'hi).toNat ≤ 57
      rw [e1]
      obtain ⟨i', rfl⟩ : ∃ i', i = i' + 1 := ⟨i - 1, by omega⟩
      have e3 : (Lib.itoa n)[i' + 1] = (Lib.decDigits (-n).toNat)[i']'(by rw [e] at h'; simpa using h') := by simp [e]
      rw [e3]
      exact dec_digit _ _ (List.getElem_mem _)
    · obtain ⟨h', e1⟩ := txt_at n 0 (by omega)
      have e3 : (Lib.itoa n)[0] = 45 := by simp [e]
      show ((((txt n)[0]'(by omega)).toNat : Nat) : Int) = 45
      rw [e1, e3]; rfl
    · obtain ⟨h', e1⟩ := txt_at n 1 hpos
      have e3 : (Lib.itoa n)[1] = c := by simp [e, hc]
      show (49 : Int) ≤ ((((txt n)[1]'hpos).toNat : Nat) : Int)
      rw [e1, e3]; omega
    · obtain ⟨h', e1⟩ := txt_at n 1 hpos
      have e3 : (Lib.itoa n)[1] = c := by simp [e, hc]
      show ((((txt n)[1]'hpos).toNat : Nat) : Int) ≤ 57
      rw [e1, e3]; omega
    · show (magOf ((txt n).data.toList.drop 1) : Int) = -n
      rw [txt_list, e, List.drop_succ_cons, List.drop_zero, dec_mag]; omega

end Go.Proofs.Qxb6618396aDoor
