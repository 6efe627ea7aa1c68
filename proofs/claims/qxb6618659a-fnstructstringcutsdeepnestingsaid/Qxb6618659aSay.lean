/- zzChainText: its walk. -/
import Derived.Test.Qxb6618659aChain
namespace Go.Proofs.Qxb6618659a
open Go.RowKit
set_option linter.unusedVariables false

set_option maxHeartbeats 1000000 in
set_option maxRecDepth 100000 in
theorem say_few (w : World) (o : Option Addr) (n c : Nat) (S : Nat → ByteArray) (hn : 1 ≤ n) (hn2 : n ≤ 9) (hS : ∀ i, i < n → (S i).size ≤ 1048576) (h : Strs w o n S) :
    Calls Try.prog 11 #[.slice o n c] w fun e w' => (∃ t : ByteArray, e = .returned (.string t) ∧ t.data.toList = chainT S n) ∧ w' = w := by
  obtain ⟨b, off, rfl, hc⟩ := h (by omega)
  have hs := CH.start S n hn
  have y1 : (⟨#[91]⟩ : ByteArray).size = 1 := rfl
  have y2 : (⟨#[93]⟩ : ByteArray).size = 1 := rfl
  go_enter Try.func11, Try.ntmps11
  go_wp2_with fail
  go_loop [5, 6] (fun v t => ∃ (i : Nat) (x : ByteArray), i ≤ n ∧ t = .int .i64 (i : Int) ∧ v = .string x ∧ CH S n i x) (fun _ t => n - (intOf t).toNat)
  case atStart => exact ⟨0, _, by omega, rfl, rfl, hs⟩
  case round =>
    obtain ⟨i, x, him, rfl, rfl, hI⟩ := hrel
    have hxl := hI.len
    by_cases h1 : i + 1 < n
    · have e1 := hc i (by omega)
      have hSi := hS i (by omega)
      go_wp2_with fail
      go_round
      case rel => exact ⟨i + 1, _, by omega, by go_num, rfl, hI.step h1 hSi⟩
      case measure => simp [intOf]; omega
    · by_cases h2 : i + 1 = n
      · have e1 := hc i (by omega)
        have hSi := hS i (by omega)
        go_wp2_with fail
        go_round
        case rel => exact ⟨i + 1, _, by omega, by go_num, rfl, hI.last h2 hSi⟩
        case measure => simp [intOf]; omega
      · obtain rfl : n = i := by omega
        have F : Hid _ := hI.eq
        clear hI hs
        go_wp2_with fail
        go_loop [5, 8] (fun v t => ∃ (i : Nat) (y : ByteArray), i ≤ n - 1 ∧ t = .int .i64 (i : Int) ∧ v = .string y ∧ CL x.data.toList i y) (fun _ t => n - 1 - (intOf t).toNat)
        case atStart => exact ⟨0, _, by omega, rfl, rfl, CL.start rfl (by omega)⟩
        case round =>
          obtain ⟨i, y, hin, rfl, rfl, hI⟩ := hrel
          have hyl := hI.len
          by_cases h3 : i + 1 < n
          · go_wp2_with fail
            go_round
            case rel => exact ⟨i + 1, _, by omega, by go_num, rfl, hI.step⟩
            case measure => simp [intOf]; omega
          · obtain rfl : i = n - 1 := by omega
            have G : Hid _ := hI.eq
            clear hI
            go_wp2_with fail
            go_ret
            refine ⟨⟨_, rfl, ?_⟩, rfl⟩
            rw [G.out, F.out, if_neg (by omega)]
            unfold chainT
            rw [if_neg (by omega)]

set_option maxHeartbeats 1000000 in
set_option maxRecDepth 100000 in
theorem say_many (w : World) (o : Option Addr) (n c : Nat) (S : Nat → ByteArray) (hn : 9 < n) (hn2 : n ≤ 4096) (hS : ∀ i, i < n → (S i).size ≤ 1048576) (h : Strs w o n S) :
    Calls Try.prog 11 #[.slice o n c] w fun e w' => (∃ t : ByteArray, e = .returned (.string t) ∧ t.data.toList = chainT S n) ∧ w' = w := by
  obtain ⟨b, off, rfl, hc⟩ := h (by omega)
  have hs := CH.start S n (by omega)
  have y1 : (⟨#[91]⟩ : ByteArray).size = 1 := rfl
  have y2 : (⟨#[93]⟩ : ByteArray).size = 1 := rfl
  have y3 : (⟨#[46, 46, 46]⟩ : ByteArray).size = 3 := rfl
  go_enter Try.func11, Try.ntmps11
  go_wp2_with fail
  go_loop [5, 6] (fun v t => ∃ (i : Nat) (x : ByteArray), i ≤ 8 ∧ t = .int .i64 (i : Int) ∧ v = .string x ∧ CH S n i x) (fun _ t => 8 - (intOf t).toNat)
  case atStart => exact ⟨0, _, by omega, rfl, rfl, hs⟩
  case round =>
    obtain ⟨i, x, him, rfl, rfl, hI⟩ := hrel
    have hxl := hI.len
    by_cases h1 : i < 8
    · have e1 := hc i (by omega)
      have hSi := hS i (by omega)
      go_wp2_with fail
      go_round
      case rel => exact ⟨i + 1, _, by omega, by go_num, rfl, hI.step (by omega) hSi⟩
      case measure => simp [intOf]; omega
    · obtain rfl : i = 8 := by omega
      have F : Hid _ := hI.eq
      clear hI hs
      go_wp2_with fail
      go_loop [5, 8] (fun v t => ∃ (i : Nat) (y : ByteArray), i ≤ 8 ∧ t = .int .i64 (i : Int) ∧ v = .string y ∧ CL (x ++ ⟨#[46, 46, 46]⟩).data.toList i y) (fun _ t => 8 - (intOf t).toNat)
      case atStart => exact ⟨0, _, by omega, rfl, rfl, CL.start rfl (by rw [app_size]; omega)⟩
      case round =>
        obtain ⟨i, y, hin, rfl, rfl, hI⟩ := hrel
        have hyl := hI.len
        by_cases h3 : i < 8
        · go_wp2_with fail
          go_round
          case rel => exact ⟨i + 1, _, by omega, by go_num, rfl, hI.step⟩
          case measure => simp [intOf]; omega
        · obtain rfl : i = 8 := by omega
          have G : Hid _ := hI.eq
          clear hI
          go_wp2_with fail
          go_ret
          refine ⟨⟨_, rfl, ?_⟩, rfl⟩
          rw [G.out, app_list, F.out, if_pos (by omega)]
          unfold chainT
          rw [if_pos (by omega)]

theorem say_any (w : World) (o : Option Addr) (n c : Nat) (S : Nat → ByteArray) (hn : 1 ≤ n) (hn2 : n ≤ 4096) (hS : ∀ i, i < n → (S i).size ≤ 1048576) (h : Strs w o n S) :
    Calls Try.prog 11 #[.slice o n c] w fun e w' => (∃ t : ByteArray, e = .returned (.string t) ∧ t.data.toList = chainT S n) ∧ w' = w := by
  by_cases h9 : 9 < n
  · exact say_many w o n c S h9 hn2 hS h
  · exact say_few w o n c S hn (by omega) hS h
end Go.Proofs.Qxb6618659a
