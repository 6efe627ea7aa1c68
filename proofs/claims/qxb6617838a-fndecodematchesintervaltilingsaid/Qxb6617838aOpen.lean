/- An array of integers by value, opened. -/
import Derived.Test.Qxb6617838aRows
import Derived.WalkKit
import Derived.ProofKit
import Derived.OpenShut
import Derived.ShutString
import Derived.ChangeOld
import Derived.Below
namespace Go.Proofs.Qxb6617838a
open Go.ChangeShapes Go.WideShapes Go.ChangeAt Go.RowKit
set_option linter.unusedVariables false

theorem own : ownKnob Try.prog.godebug = none := by kernel_rfl
theorem laidOut : laidOutB Try.prog = true := by kernel_rfl

section
variable {H : Type} {enc : TypeId × Value → H} {P : Program} {w : World} {base : Nat} {spare : Nat → Bool} {held : Bool}

theorem open_arr {r : Reach} {b0 : Nat} {t e : TypeId} {n : Nat} {k : IntKind} {v : Value} {d : DataW H} {p : List MemPlace} (ht : P.underlying t = some (.array n e)) (he : P.underlying e = some (.int k)) (hce : P.cellsOf e = 1) (hct : P.cellsOf t = n)
    (hv : Value.okWide P w r b0 t v) (h : DataW.Trod enc P w base spare held t v d p) :
    ∃ A : Array Value, v = .agg A ∧ A.size = n ∧ ∃ c : Nat → Int, ∀ i, i < n → A[i]? = some (.int k (c i)) ∧ (Lit.int k (c i)).wf = true := by
  simp only [Value.okWide, ht] at hv
  obtain ⟨A, rfl, hsz, _⟩ := hv
  obtain ⟨fuel, hf⟩ := h
  obtain ⟨xs, m, _, _, _, hl, hx⟩ := DataW.trod_array ht hf
  have each : ∀ i, i < n → ∃ z : Int, A[i]? = some (.int k z) ∧ (Lit.int k z).wf = true := by
    intro i hi
    have h1 := hx i hi
    rw [hce, Nat.mul_one, List.getElem?_eq_getElem (by omega)] at h1
    obtain ⟨z, hz, _, hw⟩ := DataW.trod_int he h1
    refine ⟨z, ?_, hw⟩
    have hlt : i < A.size := by omega
    have e2 : ((Value.agg A).cells.toList.drop i).take 1 = [A[i]] := by
      show (A.toList.drop i).take 1 = [A[i]]
      rw [List.drop_eq_getElem_cons (by simpa using hlt)]
      simp
    rw [e2] at hz
    rw [Array.getElem?_eq_getElem hlt]
    simpa using hz
  refine ⟨A, rfl, hsz.trans hct, fun i => if h : i < n then Classical.choose (each i h) else 0, fun i hi => ?_⟩
  simp only [dif_pos hi]
  exact Classical.choose_spec (each i hi)
end

theorem wf_u16 {z : Int} (h : (Lit.int .u16 z).wf = true) : ∃ m : Nat, z = (m : Int) ∧ m ≤ 65535 := by
  have := bounds_u16 h
  exact ⟨z.toNat, by omega, by omega⟩
theorem wf_u32 {z : Int} (h : (Lit.int .u32 z).wf = true) : ∃ m : Nat, z = (m : Int) := by
  have := bounds_u32 h
  exact ⟨z.toNat, by omega⟩

end Go.Proofs.Qxb6617838a
