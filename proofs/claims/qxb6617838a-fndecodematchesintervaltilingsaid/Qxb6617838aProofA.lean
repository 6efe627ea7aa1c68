/- The row of FnDecodeMatchesIntervalTiling, after the frame that the kit writes for a law. -/
import Derived.Test.Qxb6617838aOpen
import Derived.Test.Qxb6617838aLawA
namespace Go.Proofs.Qxb6617838a
open Go.ChangeShapes Go.WideShapes Go.ChangeAt Go.RowKit
open Go.ChangeMaps (open_string shut_string)
set_option linter.unusedVariables false

set_option maxRecDepth 100000 in
theorem liftedA (os : Os) (started : os.Started) (H : Type) (enc : TypeId × Value → H) :
    ReturnsInHanded {} Try.checked os 3 .any (Rows.fnDecodeMatchesIntervalTilingSpec.pre6 enc Try.prog Try.f3 Rows.fnDecodeMatchesIntervalTilingRow.domain false) (Rows.fnDecodeMatchesIntervalTilingSpec.post enc Try.prog Try.f3 false true false false) := by
  refine returnsInHanded_of_change (C := Try.checked) own started (by kernel_rfl) Try.func3
    (ChangeSpec.witness6 (enc := enc) (C := Try.checked) false ⟨#[], #[.agg (Array.replicate 16 (.int .i64 0)), .agg (Array.replicate 512 (.int .u16 0)), .int .u32 0], []⟩ 8 (by kernel_rfl) (by kernel_rfl) (by kernel_rfl) (by kernel_rfl)) ?_
  intro W base args ds gs before hval0 hW hcnd _
  have hval : ∀ (j : Nat) t v, Try.f3.params[j]? = some t → args[j]? = some v → Value.okWide Try.prog W .any base t v := hval0
  have hW' := hW
  obtain ⟨p, q, hA0, hV, rfl, hfz, hnd⟩ := hW
  have hA : DataW.TrodAll enc Try.prog W 0 (fun _ => true) true Try.f3.params.toList args.toList ds p := hA0
  rw [Try.params3] at hA hval
  obtain ⟨v0, vs0, d0, ds0, p0, q0, hargs, rfl, rfl, h0, r0⟩ := trodAll_cons hA
  obtain ⟨v1, vs1, d1, ds1, p1, q1, rfl, rfl, rfl, h1, r1⟩ := trodAll_cons r0
  obtain ⟨v2, vs2, d2, ds2, p2, q2, rfl, rfl, rfl, h2, r2⟩ := trodAll_cons r1
  obtain ⟨rfl, rfl, rfl⟩ := trodAll_nil r2
  obtain rfl : args = #[v0, v1, v2] := by cases args; simp_all
  obtain ⟨rfl, rfl⟩ := trodVars_none hV
  have k0 := h0
  have lt0 : ∀ x ∈ p0, x.block < W.heap.size := by obtain ⟨m, hm⟩ := k0; exact DataW.trod_lt m _ _ _ hm
  obtain ⟨A, rfl, hA16, c, hc⟩ := open_arr Try.underlying22 Try.underlying3 (by kernel_rfl) (by kernel_rfl) (hval 0 22 v0 rfl rfl) h0
  have k1 := h1
  have lt1 : ∀ x ∈ p1, x.block < W.heap.size := by obtain ⟨m, hm⟩ := k1; exact DataW.trod_lt m _ _ _ hm
  obtain ⟨B, rfl, hB512, s, hs⟩ := open_arr Try.underlying24 Try.underlying23 (by kernel_rfl) (by kernel_rfl) (hval 1 24 v1 rfl rfl) h1
  have hs' : ∀ i, i < 512 → s i = (((s i).toNat : Nat) : Int) ∧ (s i).toNat ≤ 65535 := fun i hi => by
    have := bounds_u16 (hs i hi).2
    omega
  obtain ⟨a2, rfl, rfl, rfl, w2⟩ := open_int Try.underlying25 (hval 2 25 v2 rfl rfl) h2
  clear hA0 hval0
  obtain ⟨m2, e2⟩ := wf_u32 w2
  subst e2
  refine (lawA_any W A B m2 c (fun i => (s i).toNat) hA16 hB512 (fun i hi => (hc i hi).1) (fun i hi => by rw [(hs i hi).1, ← (hs' i hi).1]) (fun i hi => (hs' i hi).2)).mono fun e W' ⟨he, bel⟩ => ?_
  subst he
  exact ⟨_, rfl, _, _, _, [], _, [], hW', trodAll_mk1 (shut_bool Try.underlying4 _), (trodAll_cons_mk (Below.trod laidOut (by kernel_rfl) (of_decide_eq_true (by kernel_rfl)) k0 bel lt0) (trodAll_cons_mk (Below.trod laidOut (by kernel_rfl) (of_decide_eq_true (by kernel_rfl)) k1 bel lt1) (trodAll_cons_mk (shut_int Try.underlying25 w2) trodAll_mk0))), rfl, bel.frame _, fun h => by cases h⟩

theorem overA : Rows.fnDecodeMatchesIntervalTilingRow.holds Try.pinned (OpenSpec.ofChange Rows.fnDecodeMatchesIntervalTilingSpec) :=
  OpenClaim.holds_of_wide 3 Try.f3 rfl rfl rfl rfl rfl rfl rfl ⟨rfl, rfl, rfl, rfl, rfl⟩ rfl rfl rfl rfl rfl (by kernel_rfl) Try.func3 (by kernel_rfl)
    (of_decide_eq_true (by kernel_rfl)) (by unfold Func.isWrapper; first | (rw [if_pos (by decide +kernel)]; kernel_rfl) | (rw [if_neg (by decide +kernel)]; exact ⟨rfl, rfl⟩))
    (fun os started H enc _ => liftedA os started H enc)

/-- ████ THE STATEMENT ████ -/
theorem decode_tiling_proved : Rows.FnDecodeMatchesIntervalTilingSaid := overA
#print axioms decode_tiling_proved
end Go.Proofs.Qxb6617838a
