/- zzCodeOK and zzCovered. -/
import Derived.Test.Qxb6617838aArr
import Derived.Test.Qxb6617838aMath
namespace Go.Proofs.Qxb6617838a
open Go.RowKit
set_option linter.unusedVariables false

/-- The counts as naturals. -/
def cn (c : Nat → Int) (j : Nat) : Nat := (c j).toNat

theorem T_le {c : Nat → Nat} {k : Nat} (h : Pre.Fits c k) : Pre.T c k ≤ 512 := by
  cases k with
  | zero => simp [Pre.T]
  | succ k => exact (h k (by omega)).2

theorem pow_cast (k : Nat) : (2 : Int) ^ k = ((2 ^ k : Nat) : Int) := by simp

theorem pos_step {c : Nat → Int} {k : Nat} (h : ∀ j, j < k → 0 ≤ c (j + 1)) (hk : 0 ≤ c (k + 1)) : ∀ j, j < k + 1 → 0 ≤ c (j + 1) := fun j hj => by
  by_cases e : j = k
  · subst e; exact hk
  · exact h j (by omega)

theorem fits_step {c : Nat → Nat} {k : Nat} (h : Pre.Fits c k) (h1 : Pre.F c k + c (k + 1) ≤ 2 ^ (k + 1)) (h2 : Pre.T c k + c (k + 1) ≤ 512) : Pre.Fits c (k + 1) := fun j hj => by
  by_cases e : j = k
  · subst e; exact ⟨h1, h2⟩
  · exact h j (by omega)

set_option maxHeartbeats 1000000 in
theorem ok_any (w : World) (A : Array Value) (c : Nat → Int) (hc : ∀ k, k < 16 → A[k]? = some (.int .i64 (c k))) :
    Calls Try.prog 9 #[.agg A] w fun e w' => ∃ b, e = .returned (.bool b) ∧ (b = true → (∀ j, j < 15 → 0 ≤ c (j + 1)) ∧ Pre.Fits (cn c) 15) ∧ Below w.heap.size w w' := by
  have hcell : ∀ k, k < 16 → (w.alloc (.cells A 22)).cell? ⟨w.heap.size, k, none⟩ = some (.int .i64 (c k)) := fun k hk => by
    rw [cell_of_row _ _ k A 22 (0, 0) (heap_alloc_new w _)]; exact hc k hk
  have hbel : Below w.heap.size w (w.alloc (.cells A 22)) := (Below.refl _ _).alloc (Nat.le_refl _) _
  go_enter Try.func9, Try.ntmps9
  go_wp2
  generalize w.alloc (.cells A 22) = W1 at *
  go_loopg [3, 4, 5] 15 (fun g f t n wr => ∃ k q : Nat, k ≤ 15 ∧ g = 15 - k ∧ n = .int .i64 ((k : Int) + 1) ∧ f = .int .i64 ((Pre.F (cn c) k : Nat) : Int) ∧ t = .int .i64 ((Pre.T (cn c) k : Nat) : Int) ∧ wr = W1.drewN q ∧ (∀ j, j < k → 0 ≤ c (j + 1)) ∧ Pre.Fits (cn c) k)
  case atStart => exact ⟨0, 0, by omega, by omega, rfl, rfl, rfl, rfl, fun j hj => absurd hj (by omega), fun j hj => absurd hj (by omega)⟩
  case round =>
    obtain ⟨k, q, hk, rfl, rfl, rfl, rfl, rfl, hpos, hfit⟩ := hrel
    have HP : Hid _ := hpos
    have HF : Hid _ := hfit
    have hFb : Pre.F (cn c) k ≤ 65536 := Nat.le_trans (Pre.F_le hfit k (Nat.le_refl _)) (Nat.le_trans (Nat.pow_le_pow_right (by omega) (show k + 1 ≤ 16 by omega)) (by decide))
    have hTb : Pre.T (cn c) k ≤ 512 := T_le hfit
    clear hpos hfit
    by_cases hlt : k < 15
    · have e1 := hcell (k + 1) (by omega)
      have hlt' : (k : Int) + 1 ≤ 15 := by omega
      have hp0 : (0 : Int) ≤ 2 ^ (k + 1) := by rw [pow_cast]; exact Int.natCast_nonneg _
      have hp1 : (2 : Int) ^ (k + 1) ≤ 32768 := by
        rw [pow_cast]
        have := Nat.pow_le_pow_right (show 0 < 2 by omega) (show k + 1 ≤ 15 by omega)
        omega
      by_cases t1 : c (k + 1) < 0
      · go_wp2
        go_quiet (fail)
        go_wp2
        go_ret
        exact ⟨_, rfl, (fun h => by cases h), below_drewN (below_drewN hbel _) _⟩
      have d1 : decide (c (k + 1) < 0) = false := decide_eq_false t1
      by_cases t2 : (2 : Int) ^ (k + 1) - (Pre.F (cn c) k : Int) < c (k + 1)
      · go_wp2
        go_quiet (fail)
        go_wp2
        go_ret
        exact ⟨_, rfl, (fun h => by cases h), below_drewN (below_drewN hbel _) _⟩
      by_cases t3 : 512 < (Pre.T (cn c) k : Int) + c (k + 1)
      · go_wp2
        go_quiet (fail)
        go_wp2
        go_ret
        exact ⟨_, rfl, (fun h => by cases h), below_drewN hbel _⟩
      have EC : Hid (c (k + 1) = ((cn c (k + 1) : Nat) : Int)) := by show _ = _; unfold cn; omega
      go_wp2
      go_quiet (fail)
      go_wp2
      go_roundg (15 - (k + 1))
      case measure => omega
      case rel => exact ⟨k + 1, _, by omega, rfl, by go_num, congrArg (Value.int .i64) (by have := EC.out; simp only [Pre.F]; omega), congrArg (Value.int .i64) (by have := EC.out; simp only [Pre.T]; omega), rfl, pos_step HP.out (by omega), fits_step HF.out (by have := EC.out; rw [pow_cast] at t2; omega) (by have := EC.out; omega)⟩
    · obtain rfl : 15 = k := by omega
      go_wp2
      go_ret
      exact ⟨_, rfl, fun _ => ⟨HP.out, HF.out⟩, below_drewN hbel _⟩

theorem s_step {c : Nat → Nat} {k : Nat} (h : Pre.S c (k + 1) ≤ 32768) : wrap64 ((Pre.S c k : Int) + wrap64 ((c (k + 1) : Int) * 2 ^ (14 - k))) = ((Pre.S c (k + 1) : Nat) : Int) := by
  have e : ((c (k + 1) : Int) * 2 ^ (14 - k)) = ((c (k + 1) * 2 ^ (14 - k) : Nat) : Int) := by simp
  simp only [Pre.S] at h ⊢
  rw [e]
  generalize c (k + 1) * 2 ^ (14 - k) = x at *
  rw [IntWalk.wrap64_in (x : Int) ⟨by omega, by omega⟩, IntWalk.wrap64_in _ ⟨by omega, by omega⟩]
  omega

set_option maxHeartbeats 1000000 in
theorem covered_any (w : World) (A : Array Value) (c : Nat → Nat) (hc : ∀ k, k < 15 → A[k + 1]? = some (.int .i64 (c (k + 1)))) (hf : Pre.Fits c 15) :
    Calls Try.prog 12 #[.agg A] w fun e w' => e = .returned (.int .i64 ((Pre.S c 15 : Nat) : Int)) ∧ Below w.heap.size w w' := by
  have hcell : ∀ k, k < 15 → (w.alloc (.cells A 22)).cell? ⟨w.heap.size, k + 1, none⟩ = some (.int .i64 (c (k + 1))) := fun k hk => by
    rw [cell_of_row _ _ (k + 1) A 22 (0, 0) (heap_alloc_new w _)]; exact hc k hk
  have hbel : Below w.heap.size w (w.alloc (.cells A 22)) := (Below.refl _ _).alloc (Nat.le_refl _) _
  go_enter Try.func12, Try.ntmps12
  go_wp2
  generalize w.alloc (.cells A 22) = W1 at *
  go_loop [3, 4] (fun t n => ∃ k : Nat, k ≤ 15 ∧ n = .int .i64 ((k : Int) + 1) ∧ t = .int .i64 ((Pre.S c k : Nat) : Int)) (fun _ n => 16 - (intOf n).toNat)
  case atStart => exact ⟨0, by omega, rfl, rfl⟩
  case round =>
    obtain ⟨k, hk, rfl, rfl⟩ := hrel
    by_cases hlt : k < 15
    · have e1 := hcell k hlt
      have hS : Pre.S c k ≤ 32768 := Nat.le_trans (Pre.S_mono c (show k ≤ k + 1 by omega)) (Pre.S_le hf k hlt (by omega))
      have hS1 := Pre.S_le hf k hlt (by omega)
      clear hf
      go_wp2
      go_round
      case rel => exact ⟨k + 1, by omega, by go_num, congrArg (Value.int .i64) (s_step hS1)⟩
      case measure => simp [intOf]; omega
    · obtain rfl : 15 = k := by omega
      go_wp2
      go_ret
      exact ⟨rfl, hbel⟩

end Go.Proofs.Qxb6617838a
