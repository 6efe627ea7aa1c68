/- Arrays by value, held as whole: loading one out of its box; the struct of two of them, built. -/
import Derived.Test.Qxb6617838aRows
import Derived.WalkKit
import Derived.WalkSpells
import Derived.WalkLawsBesides
import Derived.Great.FillDense
import Derived.Deep.QuietTactic
import Derived.BigQuiet
import Derived.Deep.LoopGhost
namespace Go.Proofs.Qxb6617838a
open Go.RowKit
set_option linter.unusedVariables false

theorem Try.size22 : (Try.prog.info? 22).map (·.size) = some 16 := by kernel_rfl
theorem Try.size24 : (Try.prog.info? 24).map (·.size) = some 512 := by kernel_rfl
theorem Try.zero46 : (Try.prog.info? 46).map (fun i => (i.zero).map (fun z => z.cells.size)) = some (some 528) := by kernel_rfl

theorem agg_cells (A : Array Value) : (Value.agg A).cells = A := rfl

/-- One part laid into the cells from 'off' on. -/
def lay (off : Nat) (A Z : Array Value) : Array Value := A.zipIdx.foldl (fun cs (c, j) => cs.setIfInBounds (off + j) c) Z

theorem lay_size (off : Nat) (A Z : Array Value) : (lay off A Z).size = Z.size := by
  unfold lay
  rw [← Array.foldl_toList, Array.toList_zipIdx]
  exact (Great.foldl_set off A.toList 0 Z).1

theorem lay_get (off : Nat) (A Z : Array Value) (k : Nat) : (lay off A Z)[k]? = if off ≤ k ∧ k < off + A.size ∧ k < Z.size then A[k - off]? else Z[k]? := by
  unfold lay
  rw [← Array.foldl_toList, Array.toList_zipIdx]
  have := (Great.foldl_set off A.toList 0 Z).2 k
  simpa using this

theorem fill2 (A B Z : Array Value) (hA : A.size = 16) (hB : B.size = 512) (hZ : Z.size = 528) : Instr.fill (fun i => (#[(0, 16), (16, 512)] : Array (Nat × Nat))[i]?) Z [(0, .agg A), (1, .agg B)] = some (lay 16 B (lay 0 A Z)) := by
  have h1 : (lay 0 A Z).size = 528 := by rw [lay_size, hZ]
  unfold Instr.fill
  simp only [agg_cells, hA]
  show (if (decide (16 ≠ 16) || decide (0 + 16 > Z.size)) = true then none else Instr.fill _ (lay 0 A Z) [(1, .agg B)]) = _
  rw [if_neg (by simp [hZ])]
  unfold Instr.fill
  simp only [agg_cells, hB]
  show (if (decide (512 ≠ 512) || decide (16 + 512 > (lay 0 A Z).size)) = true then none else Instr.fill _ (lay 16 B (lay 0 A Z)) []) = _
  rw [if_neg (by simp [h1])]
  rfl

theorem build_run (A B : Array Value) (hA : A.size = 16) (hB : B.size = 512) : ∃ C : Array Value, (∀ w, (Instr.build 46 #[(0, .agg A), (1, .agg B)]).run Try.prog w = .ok (.agg C) w) ∧
    C.size = 528 ∧ (∀ k, k < 16 → C[k]? = A[k]?) ∧ ∀ k, k < 512 → C[16 + k]? = B[k]? := by
  obtain ⟨i, hi, hz⟩ := Option.map_eq_some_iff.1 Try.zero46
  obtain ⟨z, hz1, hz2⟩ := Option.map_eq_some_iff.1 hz
  obtain ⟨i22, hi22, hs22⟩ := Option.map_eq_some_iff.1 Try.size22
  obtain ⟨i24, hi24, hs24⟩ := Option.map_eq_some_iff.1 Try.size24
  refine ⟨lay 16 B (lay 0 A z.cells), fun w => ?_, by rw [lay_size, lay_size, hz2], fun k hk => ?_, fun k hk => ?_⟩
  · have hf := fill2 A B z.cells hA hB hz2
    simp [Instr.build, run_underlying Try.underlying46, zeroValue, typeInfo, sizeOf, hi, hz1, hi22, hi24, hs22, hs24]
    simp only [List.getElem?_toArray] at hf
    rw [hf]
    rfl
  · rw [lay_get, if_neg (by omega), lay_get, if_pos ⟨by omega, by omega, by omega⟩]
    simp
  · rw [lay_get, if_pos ⟨by omega, by omega, by rw [lay_size, hz2]; omega⟩]
    simp

/-- A struct that is built, as one operation of a walk. -/
theorem wpList_build2 {P : Program} {w : World} {ops : Array Oper} {rest : List Oper} {o : Oper} {a : Act} {Q : Exit → Act → World → Prop} (hgd : o.guard = none) (t : TypeId) (x y : Operand)
    (ho : o.op = .build t #[(0, x), (1, y)]) (u v r : Value) (hx : a.eval x = u) (hy : a.eval y = v) (hrun : (Instr.build t #[(0, u), (1, v)]).run P w = .ok r w)
    (h : wpList P ops Q rest (a.put o.dst r) w) : wpList P ops Q (o :: rest) a w := by
  refine wpList_plain hgd fun K hK => ?_
  unfold Oper.wp execOp
  simp only [ho]
  simp [hx, hy, hrun, Result.andThen]
  exact hK _ _ h

end Go.Proofs.Qxb6617838a
