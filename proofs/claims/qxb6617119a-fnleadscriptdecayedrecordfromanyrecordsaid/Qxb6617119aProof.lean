/- The row of FnLeadScriptDecayedRecordFromAnyRecord, after the frame that the kit writes for a law over slices. -/
import Derived.Test.Qxb6617119aLaw
import Derived.Deep.Slices
import Derived.WalkKit
import Derived.ProofKit
import Derived.OpenShut
import Derived.ShutString
import Derived.ChangeOld
import Derived.Below
namespace Go.Proofs.Qxb6617119a
open Go.ChangeShapes Go.WideShapes Go.ChangeAt Go.RowKit
open Go.ChangeMaps (open_string shut_string)
set_option linter.unusedVariables false

theorem own : ownKnob Try.prog.godebug = none := by kernel_rfl
theorem laidOut : laidOutB Try.prog = true := by kernel_rfl

section
variable {H : Type} {enc : TypeId × Value → H} {P : Program} {w : World} {base : Nat} {held : Bool}

/-- A slice that came in, opened as far as its elements' own shape. -/
theorem open_sl {t e : TypeId} {fuel : Nat} {a : Option Addr} {len cap : Nat} {x : DataW H × List MemPlace} (ht : P.underlying t = some (.slice e)) (hc : P.cellsOf e = 1)
    (h : DataW.trod enc P w base (fun _ => true) held fuel t (Value.slice a len cap).cells.toList = some x) (Q : Value → Prop) (hQ : ∀ n v y, DataW.trod enc P w base (fun _ => true) held n e [v] = some y → Q v) :
    len ≤ maxLen ∧ (a = none → len = 0 ∧ cap = 0) ∧ ∃ V : Nat → Value, (∀ i, i < len → Q (V i)) ∧ Sl w a len V := by
  rcases Deep.open_slice1 ht hc h with ⟨hcs, _⟩ | ⟨y, l, c, m, n, V, D, Pl, hcs, _, hl, hm, hmm, _, hx⟩
  · simp [Value.cells] at hcs
    obtain ⟨rfl, rfl, rfl⟩ := hcs
    exact ⟨Nat.zero_le _, fun _ => ⟨rfl, rfl⟩, fun _ => .bool false, fun i hi => absurd hi (by omega), fun h => absurd h (by omega)⟩
  · simp [Value.cells] at hcs
    obtain ⟨rfl, rfl, rfl⟩ := hcs
    simp only [if_true] at hmm
    subst hmm
    refine ⟨Nat.le_trans hl hm, fun h => (by cases h), V, fun i hi => hQ n _ _ (hx i (by omega)).2, fun h0 => ?_⟩
    obtain ⟨b, off, spot⟩ := y
    have hspot : spot = none := by simpa [Addr.add] using World.cell?_spot (hx 0 (by omega)).1
    subst hspot
    exact ⟨b, off, rfl, fun i hi => by rw [← add_plain]; exact (hx i (by omega)).1⟩

theorem trod_float {t : TypeId} {k : FloatKind} {n : Nat} {v : Value} {y : DataW H × List MemPlace} (ht : P.underlying t = some (.float k)) (h : DataW.trod enc P w base (fun _ => true) held n t [v] = some y) : ∃ b, v = .float k b := by
  cases n with
  | zero => simp [DataW.trod] at h
  | succ n =>
    simp only [DataW.trod, ht] at h
    cases v <;> simp_all
end

/-- The elements' own numbers. -/
theorem pick {α : Type} (C : α → Value) {w : World} {o : Option Addr} {n : Nat} {V : Nat → Value} [Inhabited α] (hV : ∀ i, i < n → ∃ b, V i = C b) (hs : Sl w o n V) : ∃ F : Nat → α, Sl w o n (fun i => C (F i)) := by
  refine ⟨fun i => if h : i < n then Classical.choose (hV i h) else default, hs.congr (fun i hi => ?_)⟩
  simp only [dif_pos hi]
  exact Classical.choose_spec (hV i hi)

theorem law_all (w : World) (o0 o1 o2 o3 o4 : Option Addr) (n0 c0 n1 c1 n2 c2 n3 c3 n4 c4 : Nat) (F : Nat → Nat) (L W I : Nat → Int) (X : Nat → Bool)
    (m0 : n0 ≤ 9223372036854775807) (m1 : n1 ≤ 9223372036854775807) (m2 : n2 ≤ 9223372036854775807) (m3 : n3 ≤ 9223372036854775807) (m4 : n4 ≤ 9223372036854775807)
    (z0 : o0 = none → n0 = 0 ∧ c0 = 0) (z1 : o1 = none → n1 = 0 ∧ c1 = 0) (z2 : o2 = none → n2 = 0 ∧ c2 = 0) (z3 : o3 = none → n3 = 0 ∧ c3 = 0) (z4 : o4 = none → n4 = 0 ∧ c4 = 0)
    (s0 : Sl w o0 n0 (fun i => .float .f64 (F i))) (s1 : Sl w o1 n1 (fun i => .int .i64 (L i))) (s2 : Sl w o2 n2 (fun i => .int .i64 (W i))) (s3 : Sl w o3 n3 (fun i => .int .i64 (I i))) (s4 : Sl w o4 n4 (fun i => .bool (X i))) :
    Calls Try.prog 5 #[.slice o0 n0 c0, .slice o1 n1 c1, .slice o2 n2 c2, .slice o3 n3 c3, .slice o4 n4 c4] w fun e w' => e = .returned (.bool true) ∧ Below w.heap.size w w' := by
  by_cases hs : n0 ≤ 65536 ∧ n1 = n0 ∧ n2 = n0 ∧ n3 ≤ 65536 ∧ n4 = n3 ∧ 8 * n0 + 8 * n1 + 8 * n2 + 8 * n3 + n4 ≤ 1048576
  · obtain ⟨hn0, rfl, rfl, hn3, rfl, hsum⟩ := hs
    exact law_in w o0 o1 o2 o3 o4 _ c0 c1 c2 _ c3 c4 F L W I X hn0 hn3 hsum z0 z1 z2 z3 z4 s0 s1 s2 s3 s4
  · exact law_out w o0 o1 o2 o3 o4 n0 c0 n1 c1 n2 c2 n3 c3 n4 c4 m0 m1 m2 m3 m4 hs

/-! ### THE ROW's STEP: WRITTEN OUT: LEAVE IT -/
set_option maxRecDepth 100000 in
theorem lifted (os : Os) (started : os.Started) (H : Type) (enc : TypeId × Value → H) :
    ReturnsInHanded {} Try.checked os 5 .any (Rows.fnLeadScriptDecayedRecordFromAnyRecordSpec.pre6 enc Try.prog Try.f5 Rows.fnLeadScriptDecayedRecordFromAnyRecordRow.domain false) (Rows.fnLeadScriptDecayedRecordFromAnyRecordSpec.post enc Try.prog Try.f5 false true false false) := by
  refine returnsInHanded_of_change (C := Try.checked) own started (by kernel_rfl) Try.func5
    (ChangeSpec.witness6 (enc := enc) (C := Try.checked) false ⟨#[], #[.slice none 0 0, .slice none 0 0, .slice none 0 0, .slice none 0 0, .slice none 0 0], []⟩ 8 (by kernel_rfl) (by kernel_rfl) (by kernel_rfl) (by kernel_rfl)) ?_
  intro W base args ds gs before hval0 hW hcnd _
  have hval : ∀ (j : Nat) t v, Try.f5.params[j]? = some t → args[j]? = some v → Value.okWide Try.prog W .any base t v := hval0
  have hW' := hW
  obtain ⟨p, q, hA0, hV, rfl, hfz, hnd⟩ := hW
  have hA : DataW.TrodAll enc Try.prog W 0 (fun _ => true) true Try.f5.params.toList args.toList ds p := hA0
  rw [Try.params5] at hA hval
  obtain ⟨v0, vs0, d0, ds0, p0, q0, hargs, rfl, rfl, h0, r0⟩ := trodAll_cons hA
  obtain ⟨v1, vs1, d1, ds1, p1, q1, rfl, rfl, rfl, h1, r1⟩ := trodAll_cons r0
  obtain ⟨v2, vs2, d2, ds2, p2, q2, rfl, rfl, rfl, h2, r2⟩ := trodAll_cons r1
  obtain ⟨v3, vs3, d3, ds3, p3, q3, rfl, rfl, rfl, h3, r3⟩ := trodAll_cons r2
  obtain ⟨v4, vs4, d4, ds4, p4, q4, rfl, rfl, rfl, h4, r4⟩ := trodAll_cons r3
  obtain ⟨rfl, rfl, rfl⟩ := trodAll_nil r4
  obtain rfl : args = #[v0, v1, v2, v3, v4] := by cases args; simp_all
  obtain ⟨rfl, rfl⟩ := trodVars_none hV
  obtain ⟨a0, len0, cap0, rfl⟩ := okWide_slice Try.underlying25 (hval 0 25 v0 rfl rfl)
  have k0 := h0
  have lt0 : ∀ x ∈ p0, x.block < W.heap.size := by obtain ⟨m, hm⟩ := k0; exact DataW.trod_lt m _ _ _ hm
  obtain ⟨m0, z0, F0, s0⟩ : len0 ≤ maxLen ∧ (a0 = none → len0 = 0 ∧ cap0 = 0) ∧ ∃ F : Nat → Nat, Sl W a0 len0 (fun i => .float .f64 (F i)) := by
    obtain ⟨fuel, hf⟩ := h0
    obtain ⟨hm, hz, V, hV, hs⟩ := open_sl Try.underlying25 (by kernel_rfl) hf (fun v => ∃ b : Nat, v = .float .f64 b) (fun n v y hv => trod_float Try.underlying22 hv)
    exact ⟨hm, hz, pick (.float .f64) hV hs⟩
  obtain ⟨a1, len1, cap1, rfl⟩ := okWide_slice Try.underlying28 (hval 1 28 v1 rfl rfl)
  have k1 := h1
  have lt1 : ∀ x ∈ p1, x.block < W.heap.size := by obtain ⟨m, hm⟩ := k1; exact DataW.trod_lt m _ _ _ hm
  obtain ⟨m1, z1, F1, s1⟩ : len1 ≤ maxLen ∧ (a1 = none → len1 = 0 ∧ cap1 = 0) ∧ ∃ F : Nat → Int, Sl W a1 len1 (fun i => .int .i64 (F i)) := by
    obtain ⟨fuel, hf⟩ := h1
    obtain ⟨hm, hz, V, hV, hs⟩ := open_sl Try.underlying28 (by kernel_rfl) hf (fun v => ∃ b : Int, v = .int .i64 b) (fun n v y hv => by obtain ⟨b, hb, _⟩ := DataW.trod_int Try.underlying3 hv; exact ⟨b, by simpa using hb⟩)
    exact ⟨hm, hz, pick (.int .i64) hV hs⟩
  obtain ⟨a2, len2, cap2, rfl⟩ := okWide_slice Try.underlying28 (hval 2 28 v2 rfl rfl)
  have k2 := h2
  have lt2 : ∀ x ∈ p2, x.block < W.heap.size := by obtain ⟨m, hm⟩ := k2; exact DataW.trod_lt m _ _ _ hm
  obtain ⟨m2, z2, F2, s2⟩ : len2 ≤ maxLen ∧ (a2 = none → len2 = 0 ∧ cap2 = 0) ∧ ∃ F : Nat → Int, Sl W a2 len2 (fun i => .int .i64 (F i)) := by
    obtain ⟨fuel, hf⟩ := h2
    obtain ⟨hm, hz, V, hV, hs⟩ := open_sl Try.underlying28 (by kernel_rfl) hf (fun v => ∃ b : Int, v = .int .i64 b) (fun n v y hv => by obtain ⟨b, hb, _⟩ := DataW.trod_int Try.underlying3 hv; exact ⟨b, by simpa using hb⟩)
    exact ⟨hm, hz, pick (.int .i64) hV hs⟩
  obtain ⟨a3, len3, cap3, rfl⟩ := okWide_slice Try.underlying28 (hval 3 28 v3 rfl rfl)
  have k3 := h3
  have lt3 : ∀ x ∈ p3, x.block < W.heap.size := by obtain ⟨m, hm⟩ := k3; exact DataW.trod_lt m _ _ _ hm
  obtain ⟨m3, z3, F3, s3⟩ : len3 ≤ maxLen ∧ (a3 = none → len3 = 0 ∧ cap3 = 0) ∧ ∃ F : Nat → Int, Sl W a3 len3 (fun i => .int .i64 (F i)) := by
    obtain ⟨fuel, hf⟩ := h3
    obtain ⟨hm, hz, V, hV, hs⟩ := open_sl Try.underlying28 (by kernel_rfl) hf (fun v => ∃ b : Int, v = .int .i64 b) (fun n v y hv => by obtain ⟨b, hb, _⟩ := DataW.trod_int Try.underlying3 hv; exact ⟨b, by simpa using hb⟩)
    exact ⟨hm, hz, pick (.int .i64) hV hs⟩
  obtain ⟨a4, len4, cap4, rfl⟩ := okWide_slice Try.underlying29 (hval 4 29 v4 rfl rfl)
  have k4 := h4
  have lt4 : ∀ x ∈ p4, x.block < W.heap.size := by obtain ⟨m, hm⟩ := k4; exact DataW.trod_lt m _ _ _ hm
  obtain ⟨m4, z4, F4, s4⟩ : len4 ≤ maxLen ∧ (a4 = none → len4 = 0 ∧ cap4 = 0) ∧ ∃ F : Nat → Bool, Sl W a4 len4 (fun i => .bool (F i)) := by
    obtain ⟨fuel, hf⟩ := h4
    obtain ⟨hm, hz, V, hV, hs⟩ := open_sl Try.underlying29 (by kernel_rfl) hf (fun v => ∃ b : Bool, v = .bool b) (fun n v y hv => by obtain ⟨b, hb, _⟩ := DataW.trod_bool Try.underlying4 hv; exact ⟨b, by simpa using hb⟩)
    exact ⟨hm, hz, pick (.bool) hV hs⟩
  clear hA0 hval0
  unfold maxLen at m0 m1 m2 m3 m4
  refine (law_all W a0 a1 a2 a3 a4 len0 cap0 len1 cap1 len2 cap2 len3 cap3 len4 cap4 F0 F1 F2 F3 F4 m0 m1 m2 m3 m4 z0 z1 z2 z3 z4 s0 s1 s2 s3 s4).mono fun e W' ⟨he, bel⟩ => ?_
  subst he
  exact ⟨_, rfl, _, _, _, [], _, [], hW', trodAll_mk1 (shut_bool Try.underlying4 _), (trodAll_cons_mk (Below.trod laidOut (by kernel_rfl) (of_decide_eq_true (by kernel_rfl)) k0 bel lt0) (trodAll_cons_mk (Below.trod laidOut (by kernel_rfl) (of_decide_eq_true (by kernel_rfl)) k1 bel lt1) (trodAll_cons_mk (Below.trod laidOut (by kernel_rfl) (of_decide_eq_true (by kernel_rfl)) k2 bel lt2) (trodAll_cons_mk (Below.trod laidOut (by kernel_rfl) (of_decide_eq_true (by kernel_rfl)) k3 bel lt3) (trodAll_cons_mk (Below.trod laidOut (by kernel_rfl) (of_decide_eq_true (by kernel_rfl)) k4 bel lt4) trodAll_mk0))))), rfl, bel.frame _, fun h => by cases h⟩

theorem over : Rows.fnLeadScriptDecayedRecordFromAnyRecordRow.holds Try.pinned (OpenSpec.ofChange Rows.fnLeadScriptDecayedRecordFromAnyRecordSpec) :=
  OpenClaim.holds_of_wide 5 Try.f5 rfl rfl rfl rfl rfl rfl rfl ⟨rfl, rfl, rfl, rfl, rfl⟩ rfl rfl rfl rfl rfl (by kernel_rfl) Try.func5 (by kernel_rfl)
    (of_decide_eq_true (by kernel_rfl)) (by unfold Func.isWrapper; first | (rw [if_pos (by decide +kernel)]; kernel_rfl) | (rw [if_neg (by decide +kernel)]; exact ⟨rfl, rfl⟩))
    (fun os started H enc _ => lifted os started H enc)

/-- ████ THE STATEMENT ████ -/
theorem lead_script_proved : Rows.FnLeadScriptDecayedRecordFromAnyRecordSaid := over
#print axioms lead_script_proved
end Go.Proofs.Qxb6617119a
