/- What Mapped answers, as a plain number. -/
import Derived.Test.Qxb6618938aRows
import Derived.WalkKit
import Derived.ProofKit
set_option linter.unusedVariables false
namespace Go.Proofs.Qxb6618938a
open Go.RowKit

/-- n, rounded up to whole chunks. -/
def upT (n : Int) : Int := (n + 4194303) / 4194304 * 4194304

theorem up_eq (n : Int) (h0 : 0 ≤ n) (h1 : n ≤ 9223372036850581504) : wrap64 (wrap64 ((wrap64 (wrap64 (n + 4194304) - 1)).tdiv 4194304) * 4194304) = upT n := by
  have e1 : wrap64 (wrap64 (n + 4194304) - 1) = n + 4194303 := by unfold wrap64; omega
  rw [e1, Int.tdiv_eq_ediv_of_nonneg (by omega)]
  have e2 : wrap64 ((n + 4194303) / 4194304) = (n + 4194303) / 4194304 := by unfold wrap64; omega
  rw [e2]
  unfold wrap64 upT
  omega

theorem round_any (n : Int) (w : World) (h0 : 0 ≤ n) (h1 : n ≤ 9223372036850581504) :
    Calls Try.prog 15 #[.int .i64 n, .int .i64 4194304] w fun e w' => e = .returned (.int .i64 (upT n)) ∧ w' = w := by
  have hu := up_eq n h0 h1
  go_enter Try.func15, Try.ntmps15
  go_wp2
  go_ret
  exact ⟨by rw [← hu]; rfl, rfl⟩

theorem mapped_any (n : Int) (w : World) (h0 : 0 ≤ n) (h1 : n ≤ 9223372036850581504) :
    Calls Try.prog 12 #[.int .i64 n] w fun e w' => e = .returned (.int .i64 (upT n)) ∧ w' = w := by
  go_enter Try.func12, Try.ntmps12
  go_wp2_with fail
  refine (round_any n w h0 h1).mono ?_
  rintro e w1 ⟨rfl, rfl⟩
  go_wp2_with fail
  go_ret
  exact ⟨rfl, rfl⟩

theorem up_facts (n : Int) (h0 : 0 ≤ n) (h1 : n ≤ 9223372036850581504) : 0 ≤ upT n ∧ upT n ≤ 9223372036850581504 ∧ n ≤ upT n ∧ upT n - n < 4194304 ∧ upT n % 4194304 = 0 ∧ upT (upT n) = upT n := by
  unfold upT; omega

theorem up_split (a b : Int) : upT a - upT (a + b) + upT b = 0 ∨ upT a - upT (a + b) + upT b = 4194304 := by
  unfold upT; omega

theorem walk_chunks (n : Int) (w0 : (Lit.int .i64 n).wf = true) (w : World) :
    Calls Try.prog 5 #[.int .i64 n] w fun e w' => e = .returned (.bool true) ∧ Grown w w' := by
  by_cases h0 : 0 ≤ n
  · by_cases h1 : n ≤ 9223372036850581504
    · obtain ⟨f0, f1, f2, f3, f4, f5⟩ := up_facts n h0 h1
      generalize hm : upT n = m at *
      have f4' : m.tmod 4194304 = 0 := by rw [Int.tmod_eq_emod_of_nonneg f0]; exact f4
      go_enter Try.func5, Try.ntmps5
      go_wp2_with fail
      refine (mapped_any n w h0 h1).mono ?_
      rintro e w1 ⟨rfl, rfl⟩
      rw [hm]
      go_wp2_with fail
      refine (mapped_any m _ f0 f1).mono ?_
      rintro e w2 ⟨rfl, rfl⟩
      rw [f5]
      go_wp2_with fail
      go_ret
      exact ⟨rfl, Grown.refl _⟩
    · go_enter Try.func5, Try.ntmps5
      go_wp2_with fail
      go_ret
      exact ⟨rfl, Grown.refl _⟩
  · go_enter Try.func5, Try.ntmps5
    go_wp2_with fail
    go_ret
    exact ⟨rfl, Grown.refl _⟩

theorem walk_split (a b : Int) (w0 : (Lit.int .i64 a).wf = true) (w1 : (Lit.int .i64 b).wf = true) (w : World) :
    Calls Try.prog 6 #[.int .i64 a, .int .i64 b] w fun e w' => e = .returned (.bool true) ∧ Grown w w' := by
  have hi : -9223372036854775808 ≤ b ∧ b ≤ 9223372036854775807 := by
    simp only [Lit.wf, IntKind.min, IntKind.max, IntKind.signed, IntKind.bits, Bool.and_eq_true, decide_eq_true_eq, if_true] at w1
    omega
  clear w0 w1
  by_cases h0 : 0 ≤ a ∧ 0 ≤ b
  · by_cases h1 : a + b ≤ 9223372036850581504
    · obtain ⟨ha, hb⟩ := h0
      obtain ⟨f0, f1, f2, f3, f4, _⟩ := up_facts (a + b) (by omega) h1
      obtain ⟨g0, g1, _⟩ := up_facts a ha (by omega)
      obtain ⟨k0, k1, _⟩ := up_facts b hb (by omega)
      have hs := up_split a b
      generalize hz : upT (a + b) = z at *
      generalize hx : upT a = x at *
      generalize hy : upT b = y at *
      have f4' : z.tmod 4194304 = 0 := by rw [Int.tmod_eq_emod_of_nonneg f0]; exact f4
      go_enter Try.func6, Try.ntmps6
      go_wp2_with fail
      refine (mapped_any (a + b) w (by omega) h1).mono ?_
      rintro e w1 ⟨rfl, rfl⟩
      rw [hz]
      go_wp2_with fail
      refine (mapped_any a _ ha (by omega)).mono ?_
      rintro e w1 ⟨rfl, rfl⟩
      rw [hx]
      go_wp2_with fail
      refine (mapped_any b _ hb (by omega)).mono ?_
      rintro e w1 ⟨rfl, rfl⟩
      rw [hy]
      go_wp2_with fail
      · go_ret
        exact ⟨rfl, Grown.refl _⟩
      · have he : (x - z + y == 0 || x - z + y == 4194304) = true := by
          simp only [Bool.or_eq_true, beq_iff_eq]
          exact hs
        go_ret
        exact ⟨congrArg (fun t => Ending.returned (.bool t)) he, Grown.refl _⟩
    · go_enter Try.func6, Try.ntmps6
      go_wp2_with fail
      all_goals
        go_ret
        exact ⟨rfl, Grown.refl _⟩
  · go_enter Try.func6, Try.ntmps6
    go_wp2_with fail
    all_goals
      go_ret
      exact ⟨rfl, Grown.refl _⟩
end Go.Proofs.Qxb6618938a
