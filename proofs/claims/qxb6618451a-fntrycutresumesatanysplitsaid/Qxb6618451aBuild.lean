/-
  A GREAT STRUCT BUILT OUT OF WHOLE ARRAYS: FastCDC2020{min, avg, max, gear, shifted, masks}.
-/
import Derived.Test.Qxb6618451aRows
import Derived.WalkKit
namespace Go.Proofs.Qxb6618451a
open Go.RowKit

/-- The cells vs laid over cs from place 'off' on. -/
def lay (off : Nat) (vs cs : Array Value) : Array Value := vs.zipIdx.foldl (fun cs (c, j) => cs.setIfInBounds (off + j) c) cs

theorem lay_list (off : Nat) : ∀ (l : List Value) (n : Nat) (cs : Array Value),
    ((l.zipIdx n).foldl (fun cs (c, j) => cs.setIfInBounds (off + j) c) cs).size = cs.size ∧
    ∀ k, ((l.zipIdx n).foldl (fun cs (c, j) => cs.setIfInBounds (off + j) c) cs)[k]? = if off + n ≤ k ∧ k < off + n + l.length ∧ k < cs.size then l[k - off - n]? else cs[k]?
  | [], n, cs => ⟨rfl, fun k => by rw [if_neg (by simp; omega)]; rfl⟩
  | v :: l, n, cs => by
    obtain ⟨h1, h2⟩ := lay_list off l (n + 1) (cs.setIfInBounds (off + n) v)
    rw [List.zipIdx_cons, List.foldl_cons]
    refine ⟨by rw [h1]; simp, fun k => ?_⟩
    rw [h2 k]
    simp only [Array.size_setIfInBounds, List.length_cons]
    by_cases hk : k = off + n
    · subst hk
      rw [if_neg (by omega), Array.getElem?_setIfInBounds]
      by_cases hs : off + n < cs.size
      · rw [if_pos rfl, if_pos hs, if_pos ⟨by omega, by omega, hs⟩]
        simp
      · rw [if_pos rfl, if_neg hs, if_neg (by omega)]
        simp; omega
    · by_cases hin : off + (n + 1) ≤ k ∧ k < off + (n + 1) + l.length ∧ k < cs.size
      · rw [if_pos hin, if_pos (by omega)]
        rw [show k - off - n = (k - off - (n + 1)) + 1 by omega, List.getElem?_cons_succ]
      · rw [if_neg hin, if_neg (by omega), Array.getElem?_setIfInBounds, if_neg (by omega)]

theorem lay_size (off : Nat) (vs cs : Array Value) : (lay off vs cs).size = cs.size := by
  have := (lay_list off vs.toList 0 cs).1
  rw [← this, lay, ← Array.foldl_toList, Array.toList_zipIdx]
theorem lay_get (off : Nat) (vs cs : Array Value) (k : Nat) : (lay off vs cs)[k]? = if off ≤ k ∧ k < off + vs.size ∧ k < cs.size then vs[k - off]? else cs[k]? := by
  have := (lay_list off vs.toList 0 cs).2 k
  rw [lay, ← Array.foldl_toList, Array.toList_zipIdx, this]
  simp

theorem zero36 : ((Try.prog.info? 36).bind (·.zero)).map (fun z => z.cells.size) = some 517 := by kernel_rfl

theorem zeroRun : ∃ z : Value, z.cells.size = 517 ∧ ∀ w, (zeroValue 36).run Try.prog w = .ok z w := by
  obtain ⟨z, hz, hs⟩ := Option.map_eq_some_iff.1 zero36
  obtain ⟨i, hi, hzi⟩ := Option.bind_eq_some_iff.1 hz
  exact ⟨z, hs, fun w => by simp [zeroValue, typeInfo, hi, hzi]⟩

/-- The struct's cells. -/
def cellsF (Z : Array Value) (mn av mx : Int) (G S M : Array Value) : Array Value :=
  lay 515 M (lay 259 S (lay 3 G (lay 2 #[.int .i64 mx] (lay 1 #[.int .i64 av] (lay 0 #[.int .i64 mn] Z)))))

theorem fill_step (place : Nat → Option (Nat × Nat)) (cells : Array Value) (i : Nat) (v : Value) (rest : List (Nat × Value)) (off size : Nat) (hp : place i = some (off, size)) (h1 : v.cells.size = size) (h2 : off + v.cells.size ≤ cells.size) :
    Instr.fill place cells ((i, v) :: rest) = Instr.fill place (lay off v.cells cells) rest := by
  rw [Instr.fill, hp]
  simp only []
  rw [if_neg (by simp [h1]; omega)]
  rfl

theorem fill36 (Z : Array Value) (hZ : Z.size = 517) (mn av mx : Int) (G S M : Array Value) (hG : G.size = 256) (hS : S.size = 256) (hM : M.size = 2) :
    Instr.fill (fun x => ([(0, 1), (1, 1), (2, 1), (3, 256), (259, 256), (515, 2)] : List (Nat × Nat))[x]?) Z [(0, .int .i64 mn), (1, .int .i64 av), (2, .int .i64 mx), (3, .agg G), (4, .agg S), (5, .agg M)] = some (cellsF Z mn av mx G S M) := by
  rw [fill_step _ _ _ _ _ 0 1 rfl rfl (by simp [Value.cells, hZ])]
  rw [fill_step _ _ _ _ _ 1 1 rfl rfl (by simp [Value.cells, hZ, lay_size])]
  rw [fill_step _ _ _ _ _ 2 1 rfl rfl (by simp [Value.cells, hZ, lay_size])]
  rw [fill_step _ _ _ _ _ 3 256 rfl (by simpa [Value.cells] using hG) (by simp [Value.cells, hZ, lay_size, hG])]
  rw [fill_step _ _ _ _ _ 259 256 rfl (by simpa [Value.cells] using hS) (by simp [Value.cells, hZ, lay_size, hS])]
  rw [fill_step _ _ _ _ _ 515 2 rfl (by simpa [Value.cells] using hM) (by simp [Value.cells, hZ, lay_size, hM])]
  rfl

theorem build_run (Z : Value) (hZ : Z.cells.size = 517) (hrun : ∀ w, (zeroValue 36).run Try.prog w = .ok Z w) (mn av mx : Int) (G S M : Array Value) (hG : G.size = 256) (hS : S.size = 256) (hM : M.size = 2) (w : World) :
    (Instr.build 36 #[(0, .int .i64 mn), (1, .int .i64 av), (2, .int .i64 mx), (3, .agg G), (4, .agg S), (5, .agg M)]).run Try.prog w = .ok (.agg (cellsF Z.cells mn av mx G S M)) w := by
  have hf := fill36 Z.cells hZ mn av mx G S M hG hS hM
  unfold Instr.build
  rw [Sem.run_bind, hrun, Result.andThen_ok, Sem.run_bind, run_underlying Try.underlying36, Result.andThen_ok]
  simp only []
  simp [Try.sizeOf3, Try.sizeOf23, Try.sizeOf24, hf]

theorem cellsF_facts (Z : Array Value) (hZ : Z.size = 517) (mn av mx : Int) (G S : Array Value) (m0 m1 : Value) (hG : G.size = 256) (hS : S.size = 256) :
    (cellsF Z mn av mx G S #[m0, m1]).size = 517 ∧ (cellsF Z mn av mx G S #[m0, m1])[0]? = some (.int .i64 mn) ∧ (cellsF Z mn av mx G S #[m0, m1])[1]? = some (.int .i64 av) ∧
      (∀ i, i < 256 → (cellsF Z mn av mx G S #[m0, m1])[3 + i]? = G[i]?) ∧ (∀ i, i < 256 → (cellsF Z mn av mx G S #[m0, m1])[259 + i]? = S[i]?) ∧
      (cellsF Z mn av mx G S #[m0, m1])[515]? = some m0 ∧ (cellsF Z mn av mx G S #[m0, m1])[516]? = some m1 := by
  unfold cellsF
  have one : ∀ v : Value, (#[v] : Array Value).size = 1 := fun _ => rfl
  have two : (#[m0, m1] : Array Value).size = 2 := rfl
  refine ⟨?_, ?_, ?_, fun i hi => ?_, fun i hi => ?_, ?_, ?_⟩
  · simp only [lay_size, hZ]
  · simp only [lay_get, lay_size, hZ, hG, hS, one, two]
    rw [if_neg (by omega), if_neg (by omega), if_neg (by omega), if_neg (by omega), if_neg (by omega), if_pos (by omega)]
    rfl
  · simp only [lay_get, lay_size, hZ, hG, hS, one, two]
    rw [if_neg (by omega), if_neg (by omega), if_neg (by omega), if_neg (by omega), if_pos (by omega)]
    rfl
  · simp only [lay_get, lay_size, hZ, hG, hS, two]
    rw [if_neg (by omega), if_neg (by omega), if_pos (by omega), show 3 + i - 3 = i by omega]
  · simp only [lay_get, lay_size, hZ, hS, two]
    rw [if_neg (by omega), if_pos (by omega), show 259 + i - 259 = i by omega]
  · simp only [lay_get, lay_size, hZ, two]
    rw [if_pos (by omega)]; rfl
  · simp only [lay_get, lay_size, hZ, two]
    rw [if_pos (by omega)]; rfl

/-- The operation, as the walk meets it. -/
theorem wpList_build {P : Program} {w : World} {ops : Array Oper} {rest : List Oper} {o : Oper} {a : Act} {Q : Exit → Act → World → Prop} (hgd : o.guard = none) (t : TypeId) (parts : Array (Nat × Operand)) (ho : o.op = .build t parts)
    (vs : Array (Nat × Value)) (hv : (parts.map fun (i, x) => (i, a.eval x)) = vs) (v : Value) (hrun : (Instr.build t vs).run P w = .ok v w)
    (h : wpList P ops Q rest (a.put o.dst v) w) : wpList P ops Q (o :: rest) a w := by
  refine wpList_plain hgd fun K hK => ?_
  unfold Oper.wp
  simp only [execOp, ho, hv]
  simp [hrun, Result.andThen]
  exact hK _ _ h

end Go.Proofs.Qxb6618451a
