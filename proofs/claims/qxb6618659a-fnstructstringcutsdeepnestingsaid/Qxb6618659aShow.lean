/- zzShow, zzSpendStrings, the two zzBytes. -/
import Derived.Test.Qxb6618659aTop
namespace Go.Proofs.Qxb6618659a
open Go.RowKit
set_option linter.unusedVariables false

/-- A slice of strings as a walk reads it, where it has cells. -/
def Strs (w : World) (o : Option Addr) (m : Nat) (S : Nat → ByteArray) : Prop :=
  0 < m → ∃ b off, o = some ⟨b, off, none⟩ ∧ ∀ i, i < m → w.cell? ⟨b, off + i, none⟩ = some (.string (S i))

/-- An argument without arguments of its own. -/
def leafT (S : Nat → ByteArray) (i k : Nat) : List UInt8 × Nat := ((S i).data.toList, k - 1)

/-- A struct's name and the names of its arguments, k of them at most. -/
def showT (s : ByteArray) (S : Nat → ByteArray) (m k : Nat) : List UInt8 := s.data.toList ++ [91] ++ (runT (leafT S) m 0 k).1 ++ [93]

theorem app_list (a b : ByteArray) : (a ++ b).data.toList = a.data.toList ++ b.data.toList := by simp [ByteArray.data_append]
theorem app_size (a b : ByteArray) : (a ++ b).size = a.size + b.size := by simp
theorem same_string {a b : ByteArray} (h : a.data.toList = b.data.toList) : a = b := by
  cases a; cases b; simp_all

/-- zzShow's loop, i arguments shown. -/
structure SH (s : ByteArray) (S : Nat → ByteArray) (m k i : Nat) (t : ByteArray) : Prop where
  eq : s.data.toList ++ [91] ++ (runT (leafT S) m 0 k).1 = t.data.toList ++ (runT (leafT S) (m - i) i (k - i)).1
  len : t.size ≤ 1048577 + i * 1048578

theorem SH.start {s : ByteArray} {S : Nat → ByteArray} {m k : Nat} (hs : s.size ≤ 1048576) : SH s S m k 0 (s ++ ⟨#[91]⟩) :=
  ⟨by rw [app_list]; simp, by rw [app_size]; show s.size + 1 ≤ _; omega⟩

theorem SH.step0 {s : ByteArray} {S : Nat → ByteArray} {m k i : Nat} {t : ByteArray} (h : SH s S m k i t) (hi : i = 0) (him : i < m) (hik : i < k) (hS : (S i).size ≤ 1048576) : SH s S m k (i + 1) (t ++ S i) := by
  have e := h.eq
  rw [show m - i = (m - (i + 1)) + 1 from by omega] at e
  unfold runT at e
  refine ⟨?_, by rw [app_size]; have := h.len; omega⟩
  rw [if_neg (by omega)] at e
  rw [h.eq, app_list, show m - i = (m - (i + 1)) + 1 from by omega]
  conv => lhs; unfold runT
  rw [if_neg (by omega)]
  simp [leafT, hi]

theorem SH.step1 {s : ByteArray} {S : Nat → ByteArray} {m k i : Nat} {t : ByteArray} (h : SH s S m k i t) (hi : i ≠ 0) (him : i < m) (hik : i < k) (hS : (S i).size ≤ 1048576) : SH s S m k (i + 1) (t ++ ⟨#[44, 32]⟩ ++ S i) := by
  refine ⟨?_, by rw [app_size, app_size]; have := h.len; show t.size + 2 + _ ≤ _; omega⟩
  rw [h.eq, app_list, app_list, show m - i = (m - (i + 1)) + 1 from by omega]
  conv => lhs; unfold runT
  rw [if_neg (by omega)]
  simp [leafT, hi, Nat.sub_sub]

theorem SH.all {s : ByteArray} {S : Nat → ByteArray} {m k : Nat} {t : ByteArray} (h : SH s S m k m t) : s.data.toList ++ [91] ++ (runT (leafT S) m 0 k).1 = t.data.toList := by
  rw [h.eq, Nat.sub_self]; simp [runT]

theorem SH.cut {s : ByteArray} {S : Nat → ByteArray} {m k : Nat} {t : ByteArray} (h : SH s S m k k t) (hk : 1 ≤ k) (hkm : k < m) : s.data.toList ++ [91] ++ (runT (leafT S) m 0 k).1 = t.data.toList ++ [44, 32, 46, 46, 46] := by
  rw [h.eq, show m - k = (m - (k + 1)) + 1 from by omega]
  unfold runT
  rw [if_pos (by omega), if_neg (by omega)]
  rfl

set_option maxHeartbeats 1000000 in
theorem show_any (w : World) (s : ByteArray) (o : Option Addr) (m c k : Nat) (S : Nat → ByteArray) (hm : 1 ≤ m) (hm2 : m ≤ 4096) (hk : 1 ≤ k) (hk2 : k ≤ 15) (hs : s.size ≤ 1048576) (hS : ∀ i, i < m → (S i).size ≤ 1048576) (h : Strs w o m S) :
    Calls Try.prog 9 #[.string s, .slice o m c, .int .i64 (k : Int)] w fun e w' => (∃ t : ByteArray, e = .returned (.string t) ∧ t.data.toList = showT s S m k) ∧ w' = w := by
  obtain ⟨b, off, rfl, hc⟩ := h (by omega)
  have hm' : ((m : Int) == 0) = false := beq_eq_false_iff_ne.2 (by omega)
  go_enter Try.func9, Try.ntmps9
  go_wp2_with fail
  go_loop [7, 8] (fun v t => ∃ (i : Nat) (x : ByteArray), i ≤ m ∧ i ≤ k ∧ t = .int .i64 (i : Int) ∧ v = .string x ∧ SH s S m k i x) (fun _ t => m - (intOf t).toNat)
  case atStart => exact ⟨0, _, by omega, by omega, rfl, rfl, SH.start hs⟩
  case round =>
    obtain ⟨i, x, him, hik, rfl, rfl, hI⟩ := hrel
    have hxl := hI.len
    by_cases hlt : i < m ∧ i < k
    · obtain ⟨h1, h2⟩ := hlt
      have e1 := hc i h1
      have hSi := hS i h1
      by_cases hi0 : i = 0
      · have hi0' : ¬ (0 : Int) < (i : Int) := by omega
        have HI0 : Hid _ := hi0
        clear hi0
        go_wp2_with fail
        go_round
        case rel => exact ⟨i + 1, _, by omega, by omega, by go_num, rfl, hI.step0 HI0.out h1 h2 hSi⟩
        case measure => simp [intOf]; omega
      · have hi0' : (0 : Int) < (i : Int) := by omega
        have hz : (⟨#[44, 32]⟩ : ByteArray).size = 2 := rfl
        go_wp2_with fail
        go_round
        case rel => exact ⟨i + 1, _, by omega, by omega, by go_num, rfl, hI.step1 hi0 h1 h2 hSi⟩
        case measure => simp [intOf]; omega
    · by_cases hmk : k < m
      · obtain rfl : k = i := by omega
        have F : Hid _ := hI.cut hk hmk
        clear hlt
        go_wp2_with fail
        go_ret
        refine ⟨⟨_, rfl, ?_⟩, rfl⟩
        unfold showT
        rw [F.out, app_list, app_list]
      · obtain rfl : m = i := by omega
        have F : Hid _ := hI.all
        clear hlt
        go_wp2_with fail
        go_ret
        refine ⟨⟨_, rfl, ?_⟩, rfl⟩
        unfold showT
        rw [F.out, app_list]

theorem show_none (w : World) (s : ByteArray) (o : Option Addr) (c : Nat) (k : Int) :
    Calls Try.prog 9 #[.string s, .slice o 0 c, .int .i64 k] w fun e w' => e = .returned (.string s) ∧ w' = w := by
  go_enter Try.func9, Try.ntmps9
  go_wp2_with fail
  go_ret
  exact ⟨rfl, rfl⟩

set_option maxHeartbeats 1000000 in
theorem spend_any (w : World) (B : Int) (o : Option Addr) (m c : Nat) (S : Nat → ByteArray) (hB : 0 ≤ B) (hB2 : B ≤ 1048576) (hm : m ≤ 4096) (hS : ∀ i, i < m → (S i).size ≤ 9223372036854775807) (h : Strs w o m S) :
    Calls Try.prog 6 #[.int .i64 B, .slice o m c] w fun e w' => (∃ r : Int, e = .returned (.int .i64 r) ∧ (0 ≤ r → ∀ i, i < m → (S i).size ≤ 1048576)) ∧ w' = w := by
  go_enter Try.func6, Try.ntmps6
  go_wp2_with fail
  go_loop [0, 8] (fun v t => ∃ (i : Nat) (b : Int), i ≤ m ∧ t = .int .i64 (i : Int) ∧ v = .int .i64 b ∧ -16 ≤ b ∧ b ≤ 1048576 ∧ ∀ j, j < i → (S j).size ≤ 1048576) (fun _ t => m - (intOf t).toNat)
  case atStart => exact ⟨0, B, by omega, rfl, rfl, by omega, hB2, fun j hj => absurd hj (by omega)⟩
  case round =>
    obtain ⟨i, b, him, rfl, rfl, hb1, hb2, hall⟩ := hrel
    have HA : Hid _ := hall
    clear hall
    by_cases hlt : i < m
    · obtain ⟨bk, off, rfl, hc⟩ := h (by omega)
      have e1 := hc i hlt
      have hSi := hS i hlt
      by_cases t1 : b < 0
      · go_wp2_with fail
        go_ret
        exact ⟨⟨_, rfl, fun h => absurd h (by omega)⟩, rfl⟩
      by_cases t2 : b < ((S i).size : Int)
      · go_wp2_with fail
        go_ret
        exact ⟨⟨_, rfl, fun h => absurd h (by omega)⟩, rfl⟩
      go_wp2_with fail
      go_round
      case rel => exact ⟨i + 1, _, by omega, by go_num, rfl, by omega, by omega, fun j hj => by
        by_cases e : j = i
        · subst e; omega
        · exact HA.out j (by omega)⟩
      case measure => simp [intOf]; omega
    · obtain rfl : m = i := by omega
      go_wp2_with fail
      go_ret
      exact ⟨⟨_, rfl, fun _ => HA.out⟩, rfl⟩

/-- It returns some bool. -/
def RetB (e : Ending) : Prop := ∃ b, e = .returned (.bool b)
theorem RetB.mk {e : Ending} (b : Bool) (h : e = .returned (.bool b)) : RetB e := ⟨b, h⟩

set_option maxHeartbeats 1000000 in
theorem bytes1_any (w : World) (s1 s2 : ByteArray) (o : Option Addr) (m c : Nat) (S : Nat → ByteArray) (h1 : s1.size ≤ 9223372036854775807) (h2 : s2.size ≤ 9223372036854775807) (hm : m ≤ 9223372036854775807) (hS : ∀ i, i < m → (S i).size ≤ 9223372036854775807) (h : Strs w o m S) :
    Calls Try.prog 5 #[.string s1, .string s2, .slice o m c] w fun e w' => RetB e ∧ w' = w := by
  by_cases hq : s1.size + s2.size + m ≤ 1048576
  · go_enter Try.func5, Try.ntmps5
    go_wp2_with fail
    go_loop [7, 8] (fun v t => ∃ (i : Nat) (z : Int), i ≤ m ∧ t = .int .i64 (i : Int) ∧ v = .int .i64 z ∧ 0 ≤ z ∧ z ≤ 1048576) (fun _ t => m - (intOf t).toNat)
    case atStart => exact ⟨0, _, by omega, rfl, rfl, by omega, by omega⟩
    case round =>
      obtain ⟨i, z, him, rfl, rfl, hz1, hz2⟩ := hrel
      by_cases hlt : i < m
      · obtain ⟨bk, off, rfl, hc⟩ := h (by omega)
        have e1 := hc i hlt
        have hSi := hS i hlt
        by_cases t1 : (1048576 : Int) < ((S i).size : Int)
        · go_wp2_with fail
          go_ret
          exact ⟨RetB.mk _ rfl, rfl⟩
        by_cases t2 : (1048576 : Int) < z + ((S i).size : Int)
        · go_wp2_with fail
          go_ret
          exact ⟨RetB.mk _ rfl, rfl⟩
        go_wp2_with fail
        go_round
        case rel => exact ⟨i + 1, _, by omega, by go_num, rfl, by omega, by omega⟩
        case measure => simp [intOf]; omega
      · obtain rfl : m = i := by omega
        go_wp2_with fail
        go_ret
        exact ⟨RetB.mk _ rfl, rfl⟩
  · go_enter Try.func5, Try.ntmps5
    go_wp2_with fail
    all_goals
      go_ret
      exact ⟨RetB.mk _ rfl, rfl⟩

set_option maxHeartbeats 1000000 in
theorem bytes2_any (w : World) (o : Option Addr) (m c : Nat) (S : Nat → ByteArray) (hm : m ≤ 9223372036854775807) (hS : ∀ i, i < m → (S i).size ≤ 9223372036854775807) (h : Strs w o m S) :
    Calls Try.prog 10 #[.slice o m c] w fun e w' => RetB e ∧ w' = w := by
  by_cases hq : m ≤ 1048576
  · go_enter Try.func10, Try.ntmps10
    go_wp2_with fail
    go_loop [3, 4] (fun v t => ∃ (i : Nat) (z : Int), i ≤ m ∧ t = .int .i64 (i : Int) ∧ v = .int .i64 z ∧ 0 ≤ z ∧ z ≤ 1048576) (fun _ t => m - (intOf t).toNat)
    case atStart => exact ⟨0, _, by omega, rfl, rfl, by omega, by omega⟩
    case round =>
      obtain ⟨i, z, him, rfl, rfl, hz1, hz2⟩ := hrel
      by_cases hlt : i < m
      · obtain ⟨bk, off, rfl, hc⟩ := h (by omega)
        have e1 := hc i hlt
        have hSi := hS i hlt
        by_cases t1 : (1048576 : Int) < ((S i).size : Int)
        · go_wp2_with fail
          go_ret
          exact ⟨RetB.mk _ rfl, rfl⟩
        by_cases t2 : (1048576 : Int) < z + ((S i).size : Int)
        · go_wp2_with fail
          go_ret
          exact ⟨RetB.mk _ rfl, rfl⟩
        go_wp2_with fail
        go_round
        case rel => exact ⟨i + 1, _, by omega, by go_num, rfl, by omega, by omega⟩
        case measure => simp [intOf]; omega
      · obtain rfl : m = i := by omega
        go_wp2_with fail
        go_ret
        exact ⟨RetB.mk _ rfl, rfl⟩
  · go_enter Try.func10, Try.ntmps10
    go_wp2_with fail
    all_goals
      go_ret
      exact ⟨RetB.mk _ rfl, rfl⟩

end Go.Proofs.Qxb6618659a
