/- The row of FnStructStringCutsDeepNesting, after the frame that the kit writes for a law over slices and strings. -/
import Derived.Test.Qxb6618659aLawB
import Derived.Deep.Slices
import Derived.WalkKit
import Derived.ProofKit
import Derived.OpenShut
import Derived.ShutString
import Derived.ChangeOld
import Derived.Below
namespace Go.Proofs.Qxb6618659a
open Go.ChangeShapes Go.WideShapes Go.ChangeAt Go.RowKit
open Go.ChangeMaps (open_string shut_string)
set_option linter.unusedVariables false

theorem own : ownKnob Try.prog.godebug = none := by kernel_rfl
theorem laidOut : laidOutB Try.prog = true := by kernel_rfl

section
variable {H : Type} {enc : TypeId × Value → H} {P : Program} {w : World} {base : Nat} {held : Bool}

/-- A slice of strings that came in, opened. -/
theorem open_strs {t e : TypeId} {fuel : Nat} {a : Option Addr} {len cap : Nat} {x : DataW H × List MemPlace} (ht : P.underlying t = some (.slice e)) (he : P.underlying e = some .string) (hc : P.cellsOf e = 1)
    (h : DataW.trod enc P w base (fun _ => true) held fuel t (Value.slice a len cap).cells.toList = some x) :
    len ≤ maxLen ∧ (a = none → len = 0 ∧ cap = 0) ∧ ∃ S : Nat → ByteArray, (∀ i, i < len → (S i).size ≤ maxLen) ∧ Strs w a len S := by
  rcases Deep.open_slice1 ht hc h with ⟨hcs, _⟩ | ⟨y, l, c, m, n, V, D, Pl, hcs, _, hl, hm, hmm, _, hx⟩
  · simp [Value.cells] at hcs
    obtain ⟨rfl, rfl, rfl⟩ := hcs
    exact ⟨Nat.zero_le _, fun _ => ⟨rfl, rfl⟩, fun _ => ⟨#[]⟩, fun i hi => absurd hi (by omega), fun h => absurd h (by omega)⟩
  · simp [Value.cells] at hcs
    obtain ⟨rfl, rfl, rfl⟩ := hcs
    simp only [if_true] at hmm
    subst hmm
    have hV : ∀ i, i < len → ∃ s : ByteArray, V i = .string s ∧ s.size ≤ maxLen := fun i hi => by
      obtain ⟨s, hs, _, hw⟩ := DataW.trod_string he (hx i (by omega)).2
      exact ⟨s, by simpa using hs, hw⟩
    refine ⟨Nat.le_trans hl hm, fun h => (by cases h), fun i => if h : i < len then Classical.choose (hV i h) else ⟨#[]⟩, fun i hi => ?_, fun h0 => ?_⟩
    · simp only [dif_pos hi]
      exact (Classical.choose_spec (hV i hi)).2
    · obtain ⟨b, off, spot⟩ := y
      have hspot : spot = none := by simpa [Addr.add] using World.cell?_spot (hx 0 (by omega)).1
      subst hspot
      refine ⟨b, off, rfl, fun i hi => ?_⟩
      simp only [dif_pos hi]
      rw [← (Classical.choose_spec (hV i hi)).1, ← add_plain]
      exact (hx i (by omega)).1
end

theorem lawB_all (w : World) (o : Option Addr) (m c : Nat) (S : Nat → ByteArray) (hm : m ≤ 9223372036854775807) (hS : ∀ i, i < m → (S i).size ≤ 9223372036854775807) (h : Strs w o m S) :
    Calls Try.prog 4 #[.slice o m c] w fun e w' => e = .returned (.bool true) ∧ Below w.heap.size w w' := by
  by_cases hq : 4096 < m
  · exact lawB_out w o m c S hm hS h hq
  · exact lawB_in w o m c S (by omega) hS h

/-! ### THE ROW's STEP -/
set_option maxRecDepth 100000 in
theorem liftedB (os : Os) (started : os.Started) (H : Type) (enc : TypeId × Value → H) :
    ReturnsInHanded {} Try.checked os 4 .any (Rows.fnStructStringCutsDeepNestingSpec.pre6 enc Try.prog Try.f4 Rows.fnStructStringCutsDeepNestingRow.domain false) (Rows.fnStructStringCutsDeepNestingSpec.post enc Try.prog Try.f4 false true false false) := by
  refine returnsInHanded_of_change (C := Try.checked) own started (by kernel_rfl) Try.func4
    (ChangeSpec.witness6 (enc := enc) (C := Try.checked) false ⟨#[], #[.slice none 0 0], []⟩ 8 (by kernel_rfl) (by kernel_rfl) (by kernel_rfl) (by kernel_rfl)) ?_
  intro W base args ds gs before hval0 hW hcnd _
  have hval : ∀ (j : Nat) t v, Try.f4.params[j]? = some t → args[j]? = some v → Value.okWide Try.prog W .any base t v := hval0
  have hW' := hW
  obtain ⟨p, q, hA0, hV, rfl, hfz, hnd⟩ := hW
  have hA : DataW.TrodAll enc Try.prog W 0 (fun _ => true) true Try.f4.params.toList args.toList ds p := hA0
  rw [Try.params4] at hA hval
  obtain ⟨v0, vs0, d0, ds0, p0, q0, hargs, rfl, rfl, h0, r0⟩ := trodAll_cons hA
  obtain ⟨rfl, rfl, rfl⟩ := trodAll_nil r0
  obtain rfl : args = #[v0] := by cases args; simp_all
  obtain ⟨rfl, rfl⟩ := trodVars_none hV
  obtain ⟨a0, len0, cap0, rfl⟩ := okWide_slice Try.underlying22 (hval 0 22 v0 rfl rfl)
  have k0 := h0
  have lt0 : ∀ x ∈ p0, x.block < W.heap.size := by obtain ⟨m, hm⟩ := k0; exact DataW.trod_lt m _ _ _ hm
  obtain ⟨m0, z0, S, hS, s0⟩ : len0 ≤ maxLen ∧ (a0 = none → len0 = 0 ∧ cap0 = 0) ∧ ∃ S : Nat → ByteArray, (∀ i, i < len0 → (S i).size ≤ maxLen) ∧ Strs W a0 len0 S := by
    obtain ⟨fuel, hf⟩ := h0
    exact open_strs Try.underlying22 Try.underlying9 (by kernel_rfl) hf
  clear hA0 hval0
  unfold maxLen at m0 hS
  refine (lawB_all W a0 len0 cap0 S m0 hS s0).mono fun e W' ⟨he, bel⟩ => ?_
  subst he
  exact ⟨_, rfl, _, _, _, [], _, [], hW', trodAll_mk1 (shut_bool Try.underlying4 _), (trodAll_cons_mk (Below.trod laidOut (by kernel_rfl) (of_decide_eq_true (by kernel_rfl)) k0 bel lt0) trodAll_mk0), rfl, bel.frame _, fun h => by cases h⟩

theorem overB : Rows.fnStructStringCutsDeepNestingRow.holds Try.pinned (OpenSpec.ofChange Rows.fnStructStringCutsDeepNestingSpec) :=
  OpenClaim.holds_of_wide 4 Try.f4 rfl rfl rfl rfl rfl rfl rfl ⟨rfl, rfl, rfl, rfl, rfl⟩ rfl rfl rfl rfl rfl (by kernel_rfl) Try.func4 (by kernel_rfl)
    (of_decide_eq_true (by kernel_rfl)) (by unfold Func.isWrapper; first | (rw [if_pos (by decide +kernel)]; kernel_rfl) | (rw [if_neg (by decide +kernel)]; exact ⟨rfl, rfl⟩))
    (fun os started H enc _ => liftedB os started H enc)

/-- The statement. -/
theorem struct_cuts_proved : Rows.FnStructStringCutsDeepNestingSaid := overB
#print axioms struct_cuts_proved
end Go.Proofs.Qxb6618659a
