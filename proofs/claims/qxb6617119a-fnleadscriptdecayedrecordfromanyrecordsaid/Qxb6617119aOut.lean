/- The law's own walk where the lengths shut the input out. -/
import Derived.Test.Qxb6617119aDec
import Derived.Deep.RegionWith
namespace Go.Proofs.Qxb6617119a
open Go.RowKit
set_option linter.unusedVariables false

theorem Sl.congr {w : World} {o : Option Addr} {n : Nat} {f f' : Nat → Value} (h : Sl w o n f) (e : ∀ i, i < n → f i = f' i) : Sl w o n f' := by
  intro hn
  obtain ⟨b, off, rfl, hc⟩ := h hn
  exact ⟨b, off, rfl, fun i hi => by rw [hc i hi, e i hi]⟩

theorem Sl.drewN {w : World} {o : Option Addr} {n : Nat} {f : Nat → Value} (h : Sl w o n f) (q : Nat) : Sl (w.drewN q) o n f := h

set_option maxHeartbeats 4000000 in
set_option maxRecDepth 100000 in
theorem law_out (w : World) (o0 o1 o2 o3 o4 : Option Addr) (n0 c0 n1 c1 n2 c2 n3 c3 n4 c4 : Nat)
    (m0 : n0 ≤ 9223372036854775807) (m1 : n1 ≤ 9223372036854775807) (m2 : n2 ≤ 9223372036854775807) (m3 : n3 ≤ 9223372036854775807) (m4 : n4 ≤ 9223372036854775807)
    (hs : ¬ (n0 ≤ 65536 ∧ n1 = n0 ∧ n2 = n0 ∧ n3 ≤ 65536 ∧ n4 = n3 ∧ 8 * n0 + 8 * n1 + 8 * n2 + 8 * n3 + n4 ≤ 1048576)) :
    Calls Try.prog 5 #[.slice o0 n0 c0, .slice o1 n1 c1, .slice o2 n2 c2, .slice o3 n3 c3, .slice o4 n4 c4] w fun e w' => e = .returned (.bool true) ∧ Below w.heap.size w w' := by
  go_enter Try.func5, Try.ntmps5
  go_wp2_with (go_at_call 14; refine (bytes_any _ _ _ _ _ _ _ _ _ _ _ _ _ _ _ _ m0 m1 m2 m3 m4).mono ?_; rintro e w' ⟨⟨b, rfl⟩, rfl⟩)
  all_goals
    go_ret
    exact ⟨rfl, Below.refl _ _⟩

end Go.Proofs.Qxb6617119a
