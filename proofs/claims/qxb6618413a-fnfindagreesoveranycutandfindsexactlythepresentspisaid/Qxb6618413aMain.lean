/-
  THE WALK of FnFindAgreesOverAnyCutAndFindsExactlyThePresentSPI at a list that is not empty.
-/
import Derived.Test.Qxb6618413aWalk
namespace Go.Proofs.Qxb6618413a
open Go.RowKit

set_option maxHeartbeats 1000000 in
theorem walk_some (b off cap : Nat) (Z : List Int) (spi : Int) (k : Nat) (w : World) (hl : Z.length ≤ 65536) (hn : 0 < Z.length) (hk : k ≤ Z.length)
    (hcell : ∀ j, j < Z.length → w.cell? ⟨b, off + j, none⟩ = some (.int .u32 (Z.getD j 0))) :
    Calls Try.prog 3 #[.slice (some ⟨b, off, none⟩) Z.length cap, .int .u32 spi, .int .i64 k] w fun e w' => e = .returned (.bool true) ∧ Below w.heap.size w w' := by
  have hmk := made Z.length hl
  have hbw : b < w.heap.size := block_lt_of_cell (hcell 0 hn)
  have HC : Hid (∀ j, j < Z.length → w.cell? ⟨b, off + j, none⟩ = some (.int .u32 (Z.getD j 0))) := hcell
  clear hcell
  go_enter Try.func3, Try.ntmps3
  go_wp2_with (first | (go_at_call 4; refine (bytes_ok _ _ _ _ _ _ hl).mono ?_; rintro e w' ⟨rfl, rfl⟩))
  clear hmk
  go_loopw [9] (fun i wr => ∃ t : Nat, t ≤ Z.length ∧ i = .int .i64 t ∧ Hid (∀ j, j < Z.length → wr.cell? ⟨w.heap.size, j * 21 + 7, none⟩ = some (.int .u32 (if j < t then Z.getD j 0 else 0))) ∧ Hid (∃ c, wr.heap[w.heap.size]? = some (.cells c 36 (0, 0))) ∧ Below w.heap.size w wr) (fun i _ => Z.length - (intOf i).toNat)
  case atStart =>
    refine ⟨0, by omega, rfl, fun j hj => ?_, ⟨_, heap_alloc_new w _⟩, (Below.refl _ _).alloc (Nat.le_refl _) _⟩
    · rw [cell_of_row _ _ _ _ _ _ (heap_alloc_new w _), blank_at _ _ hj]; simp
  case round =>
    obtain ⟨t, ht, rfl, HT, HF, hb⟩ := hrel
    by_cases hlt : t < Z.length
    · have hc1 : wr.cell? ⟨b, off + t, none⟩ = some (.int .u32 (Z.getD t 0)) := (hb.cell (by exact hbw)).trans (HC.out t hlt)
      have hc2 := HT.out t hlt
      rw [if_neg (Nat.lt_irrefl _)] at hc2
      obtain ⟨c, hcc⟩ := HF.out
      have hf2 := frozen_of_row wr w.heap.size (t * 21 + 7) c 36 hcc
      have HCC : Hid (wr.heap[w.heap.size]? = some (.cells c 36 (0, 0))) := hcc
      clear hcc
      obtain ⟨z, hz⟩ : ∃ z, z = Z.getD t 0 := ⟨_, rfl⟩
      rw [← hz] at hc1
      have HZ : Hid (z = Z.getD t 0) := hz
      clear hz
      go_wp2
      go_roundw
      case rel =>
        refine ⟨t + 1, by omega, by go_num, fun j hj => ?_, ⟨_, heap_setCell_same wr w.heap.size (t * 21 + 7) c 36 _ HCC.out⟩, hb.setCell (Nat.le_refl _) _⟩
        · by_cases e : j = t
          · subst e
            rw [World.cell?_setCell_same _ _ _ hc2, if_pos (by omega), HZ.out]
          · rw [World.cell?_setCell_other _ _ _ _ (fun h => e (by have := congrArg Addr.off h; dsimp only at this; omega)), HT.out j hj]
            by_cases h : j < t
            · rw [if_pos h, if_pos (by omega)]
            · rw [if_neg h, if_neg (by omega)]
      case measure => simp [intOf]; omega
    · have hT : Teks wr w.heap.size 0 Z.length (Z.getD · 0) := fun j hj => by
        have := HT.out j hj
        rw [if_pos (by omega)] at this
        rw [Nat.zero_add]; exact this
      have HTK : Hid (Teks wr w.heap.size 0 Z.length (Z.getD · 0)) := hT
      have HTR : Hid (Teks wr w.heap.size (k * 21) (Z.length - k) (fun j => Z.getD (k + j) 0)) := fun j hj => by
        have := hT (k + j) (by omega)
        rw [← this]; congr 2; omega
      have HTL : Hid (Teks wr w.heap.size 0 k (Z.getD · 0)) := fun j hj => hT j (by omega)
      clear hT HT
      rcases first_or Z.length (Z.getD · 0) spi with hno | ⟨i, hi, hat, hbef⟩
      · -- not there
        go_wp2_with fail
        refine (zz_of (find_none _ _ _ _ _ _ hl _ HTK.out hno)).mono ?_
        rintro e w' ⟨rfl, rfl⟩
        go_wp2_with fail
        refine (zz_of (find_none _ _ _ _ _ _ (by omega) _ HTL.out (fun j hj => hno j (by omega)))).mono ?_
        rintro e w' ⟨rfl, rfl⟩
        go_wp2_with fail
        · refine (zz_of (find_empty _ _ _ _)).mono ?_
          rintro e w' ⟨rfl, rfl⟩
          go_wp2
          go_loop [14, 15] (fun p i => ∃ t : Nat, t ≤ Z.length ∧ i = .int .i64 t ∧ p = .bool false) (fun _ i => Z.length - (intOf i).toNat)
          case atStart => exact ⟨0, by omega, rfl, rfl⟩
          case round =>
            obtain ⟨t, ht, rfl, rfl⟩ := hrel
            by_cases hlt : t < Z.length
            · have hc1 : wr.cell? ⟨b, off + t, none⟩ = some (.int .u32 (Z.getD t 0)) := (hb.cell (by exact hbw)).trans (HC.out t hlt)
              have hne := hno t hlt
              obtain ⟨z, hz⟩ : ∃ z, z = Z.getD t 0 := ⟨_, rfl⟩
              rw [← hz] at hc1 hne
              have hbz : (z == spi) = false := by simpa using hne
              clear hne hz
              go_wp2
              go_round
              case rel => exact ⟨t + 1, by omega, by go_num, rfl⟩
              case measure => simp [intOf]; omega
            · go_wp2
              go_ret
              exact ⟨rfl, hb⟩
        · refine (zz_of (find_none _ _ _ _ _ _ (by omega) _ HTR.out (fun j hj => hno (k + j) (by omega)))).mono ?_
          rintro e w' ⟨rfl, rfl⟩
          go_wp2
          go_loop [14, 15] (fun p i => ∃ t : Nat, t ≤ Z.length ∧ i = .int .i64 t ∧ p = .bool false) (fun _ i => Z.length - (intOf i).toNat)
          case atStart => exact ⟨0, by omega, rfl, rfl⟩
          case round =>
            obtain ⟨t, ht, rfl, rfl⟩ := hrel
            by_cases hlt : t < Z.length
            · have hc1 : wr.cell? ⟨b, off + t, none⟩ = some (.int .u32 (Z.getD t 0)) := (hb.cell (by exact hbw)).trans (HC.out t hlt)
              have hne := hno t hlt
              obtain ⟨z, hz⟩ : ∃ z, z = Z.getD t 0 := ⟨_, rfl⟩
              rw [← hz] at hc1 hne
              have hbz : (z == spi) = false := by simpa using hne
              clear hne hz
              go_wp2
              go_round
              case rel => exact ⟨t + 1, by omega, by go_num, rfl⟩
              case measure => simp [intOf]; omega
            · go_wp2
              go_ret
              exact ⟨rfl, hb⟩
      · -- it is there, first at i
        have HA : Hid (Z.getD i 0 = spi) := hat
        have HB : Hid (∀ j, j < i → Z.getD j 0 ≠ spi) := hbef
        clear hat hbef
        obtain ⟨tinfo, htinfo, tsz⟩ : ∃ j, Try.prog.info? 36 = some j ∧ j.size ≠ 0 := by
          obtain ⟨i0, hi0, hzz⟩ := Option.map_eq_some_iff.1 info36
          exact ⟨i0, hi0, by simp only [Prod.mk.injEq] at hzz; omega⟩
        have hsame := fun w' => neq_ptr_same (P := Try.prog) w' ⟨w.heap.size, i * 21, none⟩ Try.underlying37 htinfo
        have HTI : Hid (Try.prog.info? 36 = some tinfo) := htinfo
        clear htinfo
        by_cases hik : i < k
        · go_wp2_with fail
          refine (zz_of (find_some _ _ _ _ _ _ hl _ HTK.out i (i * 21) hi (Nat.zero_add _).symm HA.out HB.out)).mono ?_
          rintro e w' ⟨rfl, rfl⟩
          go_wp2_with fail
          refine (zz_of (find_some _ _ _ _ _ _ (by omega) _ HTL.out i (i * 21) hik (Nat.zero_add _).symm HA.out HB.out)).mono ?_
          rintro e w' ⟨rfl, rfl⟩
          go_wp2_with fail
          · refine (zz_of (find_empty _ _ _ _)).mono ?_
            rintro e w' ⟨rfl, rfl⟩
            go_wp2
            go_loop [14, 15] (fun p s => ∃ t : Nat, t ≤ Z.length ∧ s = .int .i64 t ∧ p = .bool (decide (i < t))) (fun _ s => Z.length - (intOf s).toNat)
            case atStart => exact ⟨0, by omega, rfl, by simp⟩
            case round =>
              obtain ⟨t, ht, rfl, rfl⟩ := hrel
              by_cases hlt : t < Z.length
              · have hc1 : wr.cell? ⟨b, off + t, none⟩ = some (.int .u32 (Z.getD t 0)) := (hb.cell (by exact hbw)).trans (HC.out t hlt)
                obtain ⟨z, hz⟩ : ∃ z, z = Z.getD t 0 := ⟨_, rfl⟩
                rw [← hz] at hc1
                by_cases hsp : z = spi
                · have hti : i ≤ t := by
                    rcases Nat.lt_or_ge t i with h | h
                    · exact absurd (hz ▸ hsp) (HB.out t h)
                    · exact h
                  have hbz : (z == spi) = true := by simpa using hsp
                  clear hsp hz
                  go_wp2
                  go_round
                  case rel => exact ⟨t + 1, by omega, by go_num, by simp; omega⟩
                  case measure => simp [intOf]; omega
                · have hti : ¬ t = i := by
                    intro e; subst e; exact hsp (hz.trans HA.out)
                  have hbz : (z == spi) = false := by simpa using hsp
                  have hd : decide (i < t + 1) = decide (i < t) := by simp; omega
                  clear hsp hz
                  go_wp2
                  go_round
                  case rel => exact ⟨t + 1, by omega, by go_num, by rw [hd]⟩
                  case measure => simp [intOf]; omega
              · have hti : decide (i < t) = true := by simp; omega
                have hcS : wr.cell? ⟨w.heap.size, i * 21 + 7, none⟩ = some (.int .u32 spi) := by
                  have := HTK.out i hi
                  rw [Nat.zero_add] at this
                  rw [this]; exact congrArg (fun z => some (Value.int .u32 z)) HA.out
                clear HA HB HTK HTR HTL HC
                go_wp2
                go_loop [16, 17] (fun p s => ∃ t : Nat, t ≤ Z.length ∧ s = .int .i64 t ∧ p = .bool (decide (i < t))) (fun _ s => Z.length - (intOf s).toNat)
                case atStart => exact ⟨0, by omega, rfl, by simp⟩
                case round =>
                  obtain ⟨t, ht, rfl, rfl⟩ := hrel
                  by_cases hlt : t < Z.length
                  · by_cases hti : t = i
                    · subst hti
                      have heq := run_eql_ptr_same (P := Try.prog) wr ⟨w.heap.size, t * 21, none⟩ Try.underlying37 HTI.out
                      go_wp2
                      go_round
                      case rel => exact ⟨t + 1, by omega, by go_num, by simp⟩
                      case measure => simp [intOf]; omega
                    · obtain ⟨c, hcc⟩ := HF.out
                      have heq := run_eql_ptr_other (P := Try.prog) wr (a := ⟨w.heap.size, i * 21, none⟩) (b := ⟨w.heap.size, t * 21, none⟩) Try.underlying37 HTI.out tsz (fun h => hti (by have := congrArg Addr.off h; dsimp only at this; omega)) hcc hcc
                      have hd : decide (i < t + 1) = decide (i < t) := by simp; omega
                      clear hcc
                      go_wp2
                      go_round
                      case rel => exact ⟨t + 1, by omega, by go_num, by rw [hd]⟩
                      case measure => simp [intOf]; omega
                  · have hti : decide (i < t) = true := by simp; omega
                    go_wp2
                    go_ret
                    exact ⟨rfl, hb⟩
          · obtain ⟨p, hp⟩ := find_any w.heap.size (k * 21) (Z.length - k) (Z.length - k) _ spi (by omega) wr HTR.out
            refine (zz_of hp).mono ?_
            clear hp
            rintro e w' ⟨rfl, rfl⟩
            go_wp2
            go_loop [14, 15] (fun p s => ∃ t : Nat, t ≤ Z.length ∧ s = .int .i64 t ∧ p = .bool (decide (i < t))) (fun _ s => Z.length - (intOf s).toNat)
            case atStart => exact ⟨0, by omega, rfl, by simp⟩
            case round =>
              obtain ⟨t, ht, rfl, rfl⟩ := hrel
              by_cases hlt : t < Z.length
              · have hc1 : wr.cell? ⟨b, off + t, none⟩ = some (.int .u32 (Z.getD t 0)) := (hb.cell (by exact hbw)).trans (HC.out t hlt)
                obtain ⟨z, hz⟩ : ∃ z, z = Z.getD t 0 := ⟨_, rfl⟩
                rw [← hz] at hc1
                by_cases hsp : z = spi
                · have hti : i ≤ t := by
                    rcases Nat.lt_or_ge t i with h | h
                    · exact absurd (hz ▸ hsp) (HB.out t h)
                    · exact h
                  have hbz : (z == spi) = true := by simpa using hsp
                  clear hsp hz
                  go_wp2
                  go_round
                  case rel => exact ⟨t + 1, by omega, by go_num, by simp; omega⟩
                  case measure => simp [intOf]; omega
                · have hti : ¬ t = i := by
                    intro e; subst e; exact hsp (hz.trans HA.out)
                  have hbz : (z == spi) = false := by simpa using hsp
                  have hd : decide (i < t + 1) = decide (i < t) := by simp; omega
                  clear hsp hz
                  go_wp2
                  go_round
                  case rel => exact ⟨t + 1, by omega, by go_num, by rw [hd]⟩
                  case measure => simp [intOf]; omega
              · have hti : decide (i < t) = true := by simp; omega
                have hcS : wr.cell? ⟨w.heap.size, i * 21 + 7, none⟩ = some (.int .u32 spi) := by
                  have := HTK.out i hi
                  rw [Nat.zero_add] at this
                  rw [this]; exact congrArg (fun z => some (Value.int .u32 z)) HA.out
                clear HA HB HTK HTR HTL HC
                go_wp2
                go_loop [16, 17] (fun p s => ∃ t : Nat, t ≤ Z.length ∧ s = .int .i64 t ∧ p = .bool (decide (i < t))) (fun _ s => Z.length - (intOf s).toNat)
                case atStart => exact ⟨0, by omega, rfl, by simp⟩
                case round =>
                  obtain ⟨t, ht, rfl, rfl⟩ := hrel
                  by_cases hlt : t < Z.length
                  · by_cases hti : t = i
                    · subst hti
                      have heq := run_eql_ptr_same (P := Try.prog) wr ⟨w.heap.size, t * 21, none⟩ Try.underlying37 HTI.out
                      go_wp2
                      go_round
                      case rel => exact ⟨t + 1, by omega, by go_num, by simp⟩
                      case measure => simp [intOf]; omega
                    · obtain ⟨c, hcc⟩ := HF.out
                      have heq := run_eql_ptr_other (P := Try.prog) wr (a := ⟨w.heap.size, i * 21, none⟩) (b := ⟨w.heap.size, t * 21, none⟩) Try.underlying37 HTI.out tsz (fun h => hti (by have := congrArg Addr.off h; dsimp only at this; omega)) hcc hcc
                      have hd : decide (i < t + 1) = decide (i < t) := by simp; omega
                      clear hcc
                      go_wp2
                      go_round
                      case rel => exact ⟨t + 1, by omega, by go_num, by rw [hd]⟩
                      case measure => simp [intOf]; omega
                  · have hti : decide (i < t) = true := by simp; omega
                    go_wp2
                    go_ret
                    exact ⟨rfl, hb⟩
        · have hkn : ¬ Z.length = k := by omega
          go_wp2_with fail
          refine (zz_of (find_some _ _ _ _ _ _ hl _ HTK.out i (i * 21) hi (Nat.zero_add _).symm HA.out HB.out)).mono ?_
          rintro e w' ⟨rfl, rfl⟩
          go_wp2_with fail
          refine (zz_of (find_none _ _ _ _ _ _ (by omega) _ HTL.out (fun j hj => HB.out j (by omega)))).mono ?_
          rintro e w' ⟨rfl, rfl⟩
          go_wp2_with fail
          refine (zz_of (find_some _ _ _ _ _ _ (by omega) _ HTR.out (i - k) (i * 21) (by omega) (show _ = _ by omega) (by rw [show k + (i - k) = i by omega]; exact HA.out) (fun j hj => HB.out (k + j) (by omega)))).mono ?_
          rintro e w' ⟨rfl, rfl⟩
          go_wp2
          go_loop [14, 15] (fun p s => ∃ t : Nat, t ≤ Z.length ∧ s = .int .i64 t ∧ p = .bool (decide (i < t))) (fun _ s => Z.length - (intOf s).toNat)
          case atStart => exact ⟨0, by omega, rfl, by simp⟩
          case round =>
            obtain ⟨t, ht, rfl, rfl⟩ := hrel
            by_cases hlt : t < Z.length
            · have hc1 : wr.cell? ⟨b, off + t, none⟩ = some (.int .u32 (Z.getD t 0)) := (hb.cell (by exact hbw)).trans (HC.out t hlt)
              obtain ⟨z, hz⟩ : ∃ z, z = Z.getD t 0 := ⟨_, rfl⟩
              rw [← hz] at hc1
              by_cases hsp : z = spi
              · have hti : i ≤ t := by
                  rcases Nat.lt_or_ge t i with h | h
                  · exact absurd (hz ▸ hsp) (HB.out t h)
                  · exact h
                have hbz : (z == spi) = true := by simpa using hsp
                clear hsp hz
                go_wp2
                go_round
                case rel => exact ⟨t + 1, by omega, by go_num, by simp; omega⟩
                case measure => simp [intOf]; omega
              · have hti : ¬ t = i := by
                  intro e; subst e; exact hsp (hz.trans HA.out)
                have hbz : (z == spi) = false := by simpa using hsp
                have hd : decide (i < t + 1) = decide (i < t) := by simp; omega
                clear hsp hz
                go_wp2
                go_round
                case rel => exact ⟨t + 1, by omega, by go_num, by rw [hd]⟩
                case measure => simp [intOf]; omega
            · have hti : decide (i < t) = true := by simp; omega
              have hcS : wr.cell? ⟨w.heap.size, i * 21 + 7, none⟩ = some (.int .u32 spi) := by
                have := HTK.out i hi
                rw [Nat.zero_add] at this
                rw [this]; exact congrArg (fun z => some (Value.int .u32 z)) HA.out
              clear HA HB HTK HTR HTL HC
              go_wp2
              go_loop [16, 17] (fun p s => ∃ t : Nat, t ≤ Z.length ∧ s = .int .i64 t ∧ p = .bool (decide (i < t))) (fun _ s => Z.length - (intOf s).toNat)
              case atStart => exact ⟨0, by omega, rfl, by simp⟩
              case round =>
                obtain ⟨t, ht, rfl, rfl⟩ := hrel
                by_cases hlt : t < Z.length
                · by_cases hti : t = i
                  · subst hti
                    have heq := run_eql_ptr_same (P := Try.prog) wr ⟨w.heap.size, t * 21, none⟩ Try.underlying37 HTI.out
                    go_wp2
                    go_round
                    case rel => exact ⟨t + 1, by omega, by go_num, by simp⟩
                    case measure => simp [intOf]; omega
                  · obtain ⟨c, hcc⟩ := HF.out
                    have heq := run_eql_ptr_other (P := Try.prog) wr (a := ⟨w.heap.size, i * 21, none⟩) (b := ⟨w.heap.size, t * 21, none⟩) Try.underlying37 HTI.out tsz (fun h => hti (by have := congrArg Addr.off h; dsimp only at this; omega)) hcc hcc
                    have hd : decide (i < t + 1) = decide (i < t) := by simp; omega
                    clear hcc
                    go_wp2
                    go_round
                    case rel => exact ⟨t + 1, by omega, by go_num, by rw [hd]⟩
                    case measure => simp [intOf]; omega
                · have hti : decide (i < t) = true := by simp; omega
                  go_wp2
                  go_ret
                  exact ⟨rfl, hb⟩

end Go.Proofs.Qxb6618413a
