/- decode and ZZDecode. -/
import Derived.Test.Qxb6617838aOk
namespace Go.Proofs.Qxb6617838a
open Go.RowKit
set_option linter.unusedVariables false

set_option maxHeartbeats 1000000 in
theorem decode_any (w : World) (g v : Nat) (c s : Nat → Nat) (hc : ∀ k, k < 15 → w.cell? ⟨g, k + 1, none⟩ = some (.int .i64 (c (k + 1)))) (hs : ∀ k, k < 512 → w.cell? ⟨g, 16 + k, none⟩ = some (.int .u16 (s k)))
    (hsb : ∀ k, k < 512 → s k ≤ 65535) (hf : Pre.Fits c 15) (hv : v < 32768) :
    Calls Try.prog 22 #[.pointer (some ⟨g, 0, none⟩), .int .u32 v] w fun e w' => (∃ a b : Nat, e = .returned (.tuple #[.int .i64 a, .int .i64 b]) ∧ Pre.IsDec c s v a b) ∧ w' = w := by
  go_enter Try.func22, Try.ntmps22
  go_wp2
  go_loop [6, 7, 8] (fun f i n => ∃ k : Nat, k ≤ 15 ∧ n = .int .i64 ((k : Int) + 1) ∧ f = .int .i64 ((Pre.F c k : Nat) : Int) ∧ i = .int .i64 ((Pre.T c k : Nat) : Int) ∧ Pre.S c k ≤ v) (fun _ _ n => 16 - (intOf n).toNat)
  case atStart => exact ⟨0, by omega, rfl, rfl, rfl, by simp [Pre.S]⟩
  case round =>
    obtain ⟨k, hk, rfl, rfl, rfl, hS⟩ := hrel
    by_cases hlt : k < 15
    · have e1 := hc k hlt
      have hFb : Pre.F c k ≤ 65536 := Nat.le_trans (Pre.F_le hf k (by omega)) (Nat.le_trans (Nat.pow_le_pow_right (by omega) (show k + 1 ≤ 16 by omega)) (by decide))
      have hTb : Pre.T c k ≤ 512 := T_le (hf.mono (show k ≤ 15 by omega))
      have hcb : Pre.T c k + c (k + 1) ≤ 512 := (hf k hlt).2
      have hge := Pre.code_ge (c := c) (show k ≤ 14 by omega) hS
      have hdb : v / 2 ^ (14 - k) ≤ v := Nat.div_le_self _ _
      have hdi : (v : Int) / 2 ^ (14 - k) = ((v / 2 ^ (14 - k) : Nat) : Int) := by simp
      by_cases ht : v < Pre.S c (k + 1)
      · have hin := (Pre.code_lt (c := c) (v := v) (show k ≤ 14 by omega)).2 ht
        have hpl := Pre.place_lt hf hlt hS ht
        have HD : Hid _ := Pre.IsDec.found (s := s) hlt hS ht
        generalize v / 2 ^ (14 - k) = d at *
        have e2 := hs (Pre.T c k + d - Pre.F c k) (by omega)
        have hsb1 := hsb (Pre.T c k + d - Pre.F c k) (by omega)
        clear hs hc hsb hf ht hS
        go_wp2
        go_ret2
        refine ⟨⟨s (Pre.T c k + d - Pre.F c k), k + 1, rfl, ?_⟩, rfl⟩
        have e3 : Pre.T c k + d - Pre.F c k = Pre.T c k + (d - Pre.F c k) := by omega
        rw [e3]
        exact HD.out
      · have hin := fun h => ht ((Pre.code_lt (c := c) (v := v) (show k ≤ 14 by omega)).1 h)
        have hin : Pre.F c k + c (k + 1) ≤ v / 2 ^ (14 - k) := Nat.le_of_not_lt hin
        have HS : Hid (Pre.S c (k + 1) ≤ v) := Nat.le_of_not_lt ht
        generalize v / 2 ^ (14 - k) = d at *
        clear ht hS
        go_wp2
        go_round
        case rel => exact ⟨k + 1, by omega, by go_num, by simp only [Pre.F]; go_num, by simp only [Pre.T]; go_num, HS.out⟩
        case measure => simp [intOf]; omega
    · obtain rfl : 15 = k := by omega
      go_wp2
      go_ret2
      exact ⟨⟨0, 0, rfl, .inr ⟨hS, rfl, rfl⟩⟩, rfl⟩

set_option maxHeartbeats 1000000 in
theorem zzdecode_any (w : World) (A B : Array Value) (v : Nat) (c s : Nat → Nat) (hA : A.size = 16) (hB : B.size = 512) (hc : ∀ k, k < 15 → A[k + 1]? = some (.int .i64 (c (k + 1)))) (hs : ∀ k, k < 512 → B[k]? = some (.int .u16 (s k)))
    (hsb : ∀ k, k < 512 → s k ≤ 65535) (hf : Pre.Fits c 15) (hv : v < 32768) :
    Calls Try.prog 10 #[.agg A, .agg B, .int .u32 v] w fun e w' => (∃ a b : Nat, e = .returned (.tuple #[.int .i64 a, .int .i64 b]) ∧ Pre.IsDec c s v a b) ∧ Below w.heap.size w w' := by
  obtain ⟨C, hC, hCs, hC1, hC2⟩ := build_run A B hA hB
  have hgA : ((w.alloc (.cells A 22)).alloc (.cells B 24)).heap[w.heap.size]? = some (.cells A 22 (0, 0)) := heap_alloc2_old w _ _
  have hgB : ((w.alloc (.cells A 22)).alloc (.cells B 24)).heap[w.heap.size + 1]? = some (.cells B 24 (0, 0)) := heap_alloc2_new w _ _
  have h22 : (Try.prog.info? 22).map (·.size) = some A.size := by rw [hA]; exact Try.size22
  have h24 : (Try.prog.info? 24).map (·.size) = some B.size := by rw [hB]; exact Try.size24
  have HA : Hid _ := hA
  have HB : Hid _ := hB
  clear hA hB
  have hbel : Below w.heap.size w (((w.alloc (.cells A 22)).alloc (.cells B 24)).alloc (.cells C 46)) := (((Below.refl _ _).alloc (Nat.le_refl _) _).alloc (by simp) _).alloc (by simp; omega) _
  have hgC : (((w.alloc (.cells A 22)).alloc (.cells B 24)).alloc (.cells C 46)).heap[w.heap.size + 1 + 1]? = some (.cells C 46 (0, 0)) := by
    have := heap_alloc_new ((w.alloc (.cells A 22)).alloc (.cells B 24)) (.cells C 46)
    simpa using this
  have hcon := decode_any (((w.alloc (.cells A 22)).alloc (.cells B 24)).alloc (.cells C 46)) (w.heap.size + 1 + 1) v c s
    (fun k hk => by rw [cell_of_row _ _ (k + 1) C 46 (0, 0) hgC, hC1 (k + 1) (by omega)]; exact hc k hk) (fun k hk => by rw [cell_of_row _ _ (16 + k) C 46 (0, 0) hgC, hC2 k hk]; exact hs k hk) hsb hf hv
  go_enter Try.func10, Try.ntmps10
  go_wp2_with (first | (refine wpList_load_row rfl 22 (.tmp 3) rfl w.heap.size rfl 22 A (0, 0) _ hgA Try.underlying22 rfl h22 ?_) | (refine wpList_load_row rfl 24 (.tmp 4) rfl (w.heap.size + 1) rfl 24 B (0, 0) _ hgB Try.underlying24 rfl h24 ?_) | (refine wpList_build2 rfl 46 (.tmp 9) (.tmp 10) rfl (.agg A) (.agg B) (.agg C) rfl rfl (hC _) ?_) | (go_at_call 22; refine hcon.mono ?_; rintro e w' ⟨⟨a, b, rfl, hD⟩, rfl⟩))
  go_ret2
  exact ⟨⟨a, b, rfl, hD⟩, hbel⟩

end Go.Proofs.Qxb6617838a
