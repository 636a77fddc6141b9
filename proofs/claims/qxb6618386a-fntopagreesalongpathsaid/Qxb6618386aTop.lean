/-
  THE WALKS of (*walker).top and ZZTop.
-/
import Derived.Test.Qxb6618386aRows
import Derived.Test.Qxb6618386aPlain
import Derived.WalkKit
import Derived.WalkSpells
import Derived.WalkLawsBesides
import Derived.Deep.LoopGhost
import Derived.Deep.QuietTactic
import Derived.BigQuiet
namespace Go.Proofs.Qxb6618386a
open Go.RowKit

/-- The cells of block g hold the numbers Z, each an int32. -/
def Rw (w : World) (g : Nat) (Z : List Int) : Prop := ∀ j, j < Z.length → w.cell? ⟨g, j, none⟩ = some (.int .i32 (Z.getD j 0))

theorem start_work (work : Int) (d : Nat) (l0 : -9223372036854775808 ≤ work) (l1 : work ≤ 9223372036854775807) : wrap64 (work + (d - d : Nat)) = work := by
  rw [Nat.sub_self]; unfold wrap64; omega
theorem round_work (work : Int) (d k : Nat) (h : k + 1 ≤ d) : wrap64 (wrap64 (work + (d - (k + 1) : Nat)) + 1) = wrap64 (work + (d - k : Nat)) := by
  rw [wrap64_step]; congr 1; omega

set_option maxHeartbeats 400000 in
theorem top_any (g b : Nat) (Z : List Int) (hZ : Z.length ≤ 262144) (d : Nat) (u r work : Int) (hup : Up Z d u r) (w : World) (hg : g < b)
    (hcell : Rw w g Z) (hpar : w.cell? ⟨b, 2, none⟩ = some (.slice (some ⟨g, 0, none⟩) Z.length Z.length)) (l0 : -9223372036854775808 ≤ work) (l1 : work ≤ 9223372036854775807) (hwk : w.cell? ⟨b, 5, none⟩ = some (.int .i64 work)) (hfz : w.frozen? ⟨b, 5, none⟩ = false) :
    Calls Try.prog 6 #[.pointer (some ⟨b, 0, none⟩), .int .i32 u] w fun e w' => e = .returned (.int .i64 r) ∧ w'.cell? ⟨b, 5, none⟩ = some (.int .i64 (wrap64 (work + d))) ∧ Below b w w' := by
  have hr := hup.root
  go_enter Try.func6, Try.ntmps6
  go_wp2
  go_loopg [1] d (fun k x wr => ∃ y : Int, x = .int .i32 y ∧ k ≤ d ∧ Up Z k y r ∧ wr.cell? ⟨b, 2, none⟩ = some (.slice (some ⟨g, 0, none⟩) Z.length Z.length) ∧ wr.cell? ⟨b, 5, none⟩ = some (.int .i64 (wrap64 (work + (d - k : Nat)))) ∧ wr.frozen? ⟨b, 5, none⟩ = false ∧ Below b w wr)
  case atStart => exact ⟨u, rfl, Nat.le_refl _, hup, hpar, by rw [hwk, start_work work d l0 l1], hfz, Below.refl _ _⟩
  case round =>
    obtain ⟨y, rfl, hk, hu, hpar', hwk', hfz', hb⟩ := hrel
    obtain ⟨y0, y1⟩ := hu.range
    have hc : wr.cell? ⟨g, y.toNat, none⟩ = some (.int .i32 (par Z y)) := by
      rw [hb.cell (by exact hg)]; exact hcell _ (by omega)
    by_cases hn : par Z y < 0
    · obtain ⟨rfl, rfl⟩ := hu.zero hn
      go_wp2
      go_ret
      exact ⟨rfl, by simpa using hwk', hb⟩
    · obtain ⟨k', rfl, hu'⟩ := hu.step (by omega)
      go_wp2
      go_roundg k'
      case measure => omega
      case rel => 
        refine ⟨par Z y, rfl, by omega, hu', ?_, ?_, ?_, ?_⟩
        · rw [World.cell?_setCell_other _ _ _ _ (by simp)]; exact hpar'
        · rw [World.cell?_setCell_same _ _ _ hwk', round_work work d k' (by omega)]
        · rw [World.frozen?_setCell]; exact hfz'
        · exact hb.setCell (Nat.le_refl _) _

set_option maxHeartbeats 400000 in
theorem zzTop_any (g : Nat) (Z : List Int) (hZ : Z.length ≤ 262144) (d : Nat) (u r work : Int) (l0 : -9223372036854775808 ≤ work) (l1 : work ≤ 9223372036854775807) (hup : Up Z d u r) (w : World) (hg : g < w.heap.size) (hcell : Rw w g Z) :
    Calls Try.prog 5 #[.slice (some ⟨g, 0, none⟩) Z.length Z.length, .int .i64 work, .int .i32 u] w fun e w' => ∃ wu : Int, e = .returned (.tuple #[.int .i64 r, .int .i64 wu]) ∧ Hid (wu = wrap64 (work + d)) ∧ Below w.heap.size w w' := by
  go_enter Try.func5, Try.ntmps5
  go_wp2_with fail
  refine (top_any g w.heap.size Z hZ d u r work hup _ hg ?_ ?_ l0 l1 ?_ ?_).mono ?_
  · intro j hj
    rw [World.cell?_alloc_past _ _ _ (by exact hg)]; exact hcell j hj
  · simp [go_sem]
  · simp [go_sem]
  · simp [go_sem]
  rintro e w1 ⟨rfl, hc, hb⟩
  go_wp2_with fail
  go_quiet (fail)
  go_wp2
  go_ret2
  refine ⟨_, rfl, rfl, ?_⟩
  have hb2 : Below w.heap.size w w1 := ((Below.refl _ _).alloc (Nat.le_refl _) _).trans hb
  exact hb2.trans ⟨rfl, rfl, rfl, Nat.le_refl _, fun _ _ => rfl⟩

end Go.Proofs.Qxb6618386a
