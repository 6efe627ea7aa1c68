/- zzDecodeByTiling. -/
import Derived.Test.Qxb6617838aDec
namespace Go.Proofs.Qxb6617838a
open Go.RowKit
set_option linter.unusedVariables false

set_option maxHeartbeats 1000000 in
theorem tiling_any (w : World) (A B : Array Value) (v : Nat) (c s : Nat → Nat) (hc : ∀ k, k < 15 → A[k + 1]? = some (.int .i64 (c (k + 1)))) (hs : ∀ k, k < 512 → B[k]? = some (.int .u16 (s k)))
    (hsb : ∀ k, k < 512 → s k ≤ 65535) (hf : Pre.Fits c 15) (hv : v < 32768) :
    Calls Try.prog 11 #[.agg A, .agg B, .int .u32 v] w fun e w' => (∃ a b : Nat, e = .returned (.tuple #[.int .i64 a, .int .i64 b]) ∧ Pre.IsDec c s v a b) ∧ Below w.heap.size w w' := by
  have hgA : ((w.alloc (.cells A 22)).alloc (.cells B 24)).heap[w.heap.size]? = some (.cells A 22 (0, 0)) := heap_alloc2_old w _ _
  have hgB : ((w.alloc (.cells A 22)).alloc (.cells B 24)).heap[w.heap.size + 1]? = some (.cells B 24 (0, 0)) := heap_alloc2_new w _ _
  have hcell : ∀ k, k < 15 → ((w.alloc (.cells A 22)).alloc (.cells B 24)).cell? ⟨w.heap.size, k + 1, none⟩ = some (.int .i64 (c (k + 1))) := fun k hk => by
    rw [cell_of_row _ _ (k + 1) A 22 (0, 0) hgA]; exact hc k hk
  have hsym : ∀ k, k < 512 → ((w.alloc (.cells A 22)).alloc (.cells B 24)).cell? ⟨w.heap.size + 1, k, none⟩ = some (.int .u16 (s k)) := fun k hk => by
    rw [cell_of_row _ _ k B 24 (0, 0) hgB]; exact hs k hk
  have hbel : Below w.heap.size w ((w.alloc (.cells A 22)).alloc (.cells B 24)) := ((Below.refl _ _).alloc (Nat.le_refl _) _).alloc (by simp) _
  clear hgA hgB hc hs
  go_enter Try.func11, Try.ntmps11
  go_wp2
  generalize (w.alloc (.cells A 22)).alloc (.cells B 24) = W1 at *
  go_loopg [8, 9, 10] 15 (fun g t j n wr => ∃ k : Nat, k ≤ 15 ∧ g = 15 - k ∧ n = .int .i64 ((k : Int) + 1) ∧ t = .int .i64 ((Pre.S c k : Nat) : Int) ∧ j = .int .i64 ((Pre.T c k : Nat) : Int) ∧ Pre.S c k ≤ v ∧ W1 = wr)
  case atStart => exact ⟨0, by omega, by omega, rfl, rfl, rfl, by simp [Pre.S], rfl⟩
  case round =>
    obtain ⟨k, hk, rfl, rfl, rfl, rfl, hS, rfl⟩ := hrel
    by_cases hlt : k < 15
    · have e1 := hcell k hlt
      have hcb : Pre.T c k + c (k + 1) ≤ 512 := (hf k hlt).2
      have hpi : (2 : Int) ^ (14 - k) = ((2 ^ (14 - k) : Nat) : Int) := by simp
      have hpb : 2 ^ (14 - k) ≤ 16384 := Nat.le_trans (Nat.pow_le_pow_right (by omega) (show 14 - k ≤ 14 by omega)) (by decide)
      have HT : Hid (∀ j, j < c (k + 1) → Pre.S c k + j * 2 ^ (14 - k) ≤ v → v < Pre.S c k + (j + 1) * 2 ^ (14 - k) → Pre.IsDec c s v (s (Pre.T c k + j)) (k + 1)) := fun j hj h1 h2 => Pre.IsDec.tile hlt hj h1 h2
      have HN : Hid (Pre.S c (k + 1) = Pre.S c k + c (k + 1) * 2 ^ (14 - k)) := rfl
      generalize 2 ^ (14 - k) = p at *
      have hwp : wrap64 (p : Int) = (p : Int) := IntWalk.wrap64_in _ ⟨by omega, by omega⟩
      go_wp2
      go_loopg [8, 9, 12] (c (k + 1)) (fun g t j i wr => ∃ i' x : Nat, i' ≤ c (k + 1) ∧ g = c (k + 1) - i' ∧ i = .int .i64 (i' : Int) ∧ t = .int .i64 (x : Int) ∧ j = .int .i64 ((Pre.T c k : Int) + (i' : Int)) ∧ x ≤ v ∧ Hid (x = Pre.S c k + i' * p) ∧ W1 = wr)
      case atStart => exact ⟨0, Pre.S c k, by omega, by omega, rfl, rfl, by go_num, hS, by show _ = _; omega, rfl⟩
      case round =>
        obtain ⟨i, x, hi, rfl, rfl, rfl, rfl, hx, HX, rfl⟩ := hrel
        by_cases hlt2 : i < c (k + 1)
        · have e2 := hsym (Pre.T c k + i) (by omega)
          have hsb2 := hsb (Pre.T c k + i) (by omega)
          by_cases ht : v < x + p
          · go_wp2
            go_ret2
            exact ⟨⟨s (Pre.T c k + i), k + 1, rfl, HT.out i hlt2 (by have := HX.out; omega) (by have := HX.out; rw [Nat.succ_mul]; omega)⟩, hbel⟩
          · go_wp2
            go_roundg (c (k + 1) - (i + 1))
            case measure => omega
            case rel => exact ⟨i + 1, x + p, by omega, rfl, by go_num, by go_num, by go_num, by omega, by have := HX.out; show _ = _; rw [Nat.succ_mul]; omega, rfl⟩
        · have ei : c (k + 1) = i := by omega
          subst ei
          go_wp2
          go_roundg (15 - (k + 1))
          case measure => omega
          case rel => exact ⟨k + 1, by omega, rfl, by go_num, congrArg (Value.int .i64) (by rw [HX.out, HN.out]), by simp only [Pre.T]; go_num, by rw [HN.out, ← HX.out]; exact hx, rfl⟩
    · obtain rfl : 15 = k := by omega
      go_wp2
      go_ret2
      exact ⟨⟨0, 0, rfl, .inr ⟨hS, rfl, rfl⟩⟩, hbel⟩

end Go.Proofs.Qxb6617838a
