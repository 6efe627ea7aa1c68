/- The law FnStructStringCutsDeepNesting: its own walk. -/
import Derived.Test.Qxb6618659aSay
import Derived.Deep.RegionHeld3
import Derived.Deep.QuietTactic
import Derived.BigQuiet
namespace Go.Proofs.Qxb6618659a
open Go.RowKit
set_option linter.unusedVariables false

theorem Chain.cons {w : World} {p g p2 : Nat} {s : ByteArray} {l : List ByteArray} (h : Node w p g 1 s (fun _ => p2)) (hc : Chain w p2 l) : Chain w p (s :: l) := by
  cases l with
  | nil => exact False.elim hc
  | cons t l => exact ⟨g, p2, h, hc⟩

/-- The text of a chain. -/
theorem chain_str {w : World} {p : Nat} {l : List ByteArray} (h : Chain w p l) (hl : ∀ s ∈ l, s.size ≤ 1048576) :
    Calls Try.prog 8 #[.pointer (some ⟨p, 0, none⟩)] w fun e w' => (∃ t : ByteArray, e = .returned (.string t) ∧ t.data.toList = (chT 8 l 16).1 ∧ t.size ≤ 9437376) ∧ Below w.heap.size w w' := by
  have hw := chain_writes l p 8 0 h rfl hl
  have hk := (chT_ok l 8 16 hl).1
  match l, h, hl, hw, hk with
  | [], h, _, _, _ => exact False.elim h
  | [s], h, hl, _, _ =>
    have h' : Leaf w p s := h
    refine (str_leaf w p _ h'.c0 h'.c2).mono ?_
    rintro e w' ⟨rfl, hb⟩
    exact ⟨⟨_, rfl, by unfold chT; rfl, Nat.le_trans (hl _ (by simp)) (by omega)⟩, hb⟩
  | s :: t :: l, ⟨g, p2, h, hc⟩, _, hw, hk =>
    refine (strT (Nat.le_refl 1) (by omega) h.c2 (by unfold capD; omega) hw).mono ?_
    rintro e w' ⟨⟨t, rfl, ht⟩, hb⟩
    refine ⟨⟨t, rfl, ht, ?_⟩, hb⟩
    have e : t.size = t.data.toList.length := by simp
    rw [e, ht]
    exact Nat.le_trans hk (by unfold capD; omega)

/-- The same in any world behind w, and a name that lies in w reads as it did. -/
theorem second_str {w : World} (w' : World) {q bk off : Nat} {l : List ByteArray} {s : ByteArray} (h : Chain w q l) (hl : ∀ s ∈ l, s.size ≤ 1048576) (hc : w.cell? ⟨bk, off, none⟩ = some (.string s)) (hb : Below w.heap.size w w') :
    Calls Try.prog 8 #[.pointer (some ⟨q, 0, none⟩)] w' fun e w'' => (∃ t : ByteArray, e = .returned (.string t) ∧ t.data.toList = (chT 8 l 16).1 ∧ t.size ≤ 9437376) ∧ Below w.heap.size w w'' ∧ w''.cell? ⟨bk, off, none⟩ = some (.string s) :=
  (chain_str (Chain.later hb _ _ h) hl).mono fun e w'' ⟨h1, h2⟩ => have h3 := hb.trans (h2.mono hb.size); ⟨h1, h3, later h3 hc⟩

/-- The loop that makes the chain: r names left. -/
structure KB (w : World) (S : Nat → ByteArray) (n r p : Nat) (v : Value) (wr : World) : Prop where
  bel : Below w.heap.size w wr
  ch : Chain wr p (lst S r (n - r))
  sec : r + 2 ≤ n → ∃ q, v = .pointer (some ⟨q, 0, none⟩) ∧ Chain wr q (lst S (r + 1) (n - (r + 1)))

theorem KB.start {w w1 : World} {S : Nat → ByteArray} {n p : Nat} (hn : 1 ≤ n) (hb : Below w.heap.size w w1) (h : Leaf w1 p (S (n - 1))) : KB w S n (n - 1) p (.pointer none) w1 := by
  refine ⟨hb, ?_, fun h => absurd h (by omega)⟩
  rw [show n - (n - 1) = 1 by omega]
  exact h

theorem KB.step {w wr w1 : World} {S : Nat → ByteArray} {n r p p1 g : Nat} {v : Value} (h : KB w S n (r + 1) p v wr) (hr : r + 2 ≤ n) (hb : Below wr.heap.size wr w1) (hN : Node w1 p1 g 1 (S r) (fun _ => p)) :
    KB w S n r p1 (.pointer (some ⟨p, 0, none⟩)) w1 := by
  have hc := Chain.later hb _ _ h.ch
  refine ⟨h.bel.trans (hb.mono h.bel.size), ?_, fun _ => ⟨p, rfl, hc⟩⟩
  rw [show n - r = (n - (r + 1)) + 1 by omega]
  exact Chain.cons hN hc

set_option maxHeartbeats 1000000 in
set_option maxRecDepth 100000 in
theorem lawB_out (w : World) (o : Option Addr) (m c : Nat) (S : Nat → ByteArray) (hm : m ≤ 9223372036854775807) (hS : ∀ i, i < m → (S i).size ≤ 9223372036854775807) (h : Strs w o m S) (hq : 4096 < m) :
    Calls Try.prog 4 #[.slice o m c] w fun e w' => e = .returned (.bool true) ∧ Below w.heap.size w w' := by
  go_enter Try.func4, Try.ntmps4
  go_wp2_with fail
  refine (bytes2_any w o m c S hm hS h).mono ?_
  rintro e w1 ⟨⟨b, rfl⟩, rfl⟩
  clear hS h
  go_wp2_with fail
  all_goals
    go_ret
    exact ⟨rfl, Below.refl _ _⟩

set_option maxHeartbeats 1000000 in
set_option maxRecDepth 100000 in
theorem lawB_in (w : World) (o : Option Addr) (n c : Nat) (S : Nat → ByteArray) (hn : n ≤ 4096) (hS : ∀ i, i < n → (S i).size ≤ 9223372036854775807) (h : Strs w o n S) :
    Calls Try.prog 4 #[.slice o n c] w fun e w' => e = .returned (.bool true) ∧ Below w.heap.size w w' := by
  have HS0 : Hid _ := hS
  have HST : Hid (Strs w o n S) := h
  clear hS h
  go_enter Try.func4, Try.ntmps4
  go_wp2_with fail
  refine (bytes2_any w o n c S (by omega) HS0.out HST.out).mono ?_
  rintro e w1 ⟨⟨b, rfl⟩, rfl⟩
  cases b with
  | false =>
    go_wp2_with fail
    go_ret
    exact ⟨rfl, Below.refl _ _⟩
  | true =>
    go_wp2_with fail
    refine (spend_any w1 _ o n c S (by omega) (by omega) hn HS0.out HST.out).mono ?_
    rintro e w2 ⟨⟨r, rfl, hr⟩, rfl⟩
    by_cases hr0 : r < 0
    · go_wp2_with fail
      go_ret
      exact ⟨rfl, Below.refl _ _⟩
    have HS : Hid _ := hr (by omega)
    clear hr HS0
    by_cases hn0 : n = 0
    · subst hn0
      go_wp2_with fail
      go_ret
      exact ⟨rfl, Below.refl _ _⟩
    have hn1 : 1 ≤ n := by omega
    obtain ⟨bk, off, rfl, hc⟩ := HST.out (by omega)
    have e0 := hc (n - 1) (by omega)
    have HC : Hid _ := hc
    clear hc
    have hx : ((n : Int) - 1) = ((n - 1 : Nat) : Int) := by omega
    go_wp2_with fail
    refine (mk_leaf w2 (S (n - 1)) none 0).mono ?_
    rintro e w3 ⟨rfl, d0, d2, hb3⟩
    have HK : Hid _ := KB.start (S := S) hn1 hb3 ⟨d0, d2⟩
    clear d0 d2 hb3 e0 hx
    go_wp2_with fail
    go_loopg [4, 5, 6] (n - 1) (fun g nd sv t wr => ∃ (r p : Nat) (x : Int), r ≤ n - 1 ∧ g = r ∧ nd = .pointer (some ⟨p, 0, none⟩) ∧ t = .int .i64 x ∧ x = (r : Int) - 1 ∧ KB w2 S n r p sv wr)
    case atStart => exact ⟨n - 1, w2.heap.size, _, Nat.le_refl _, rfl, rfl, rfl, by omega, HK.out⟩
    case round =>
      obtain ⟨rr, p, x, hrn, hg, rfl, rfl, hx, hK⟩ := hrel
      by_cases hr1 : rr = 0
      · subst hr1
        obtain rfl : x = -1 := by omega
        clear hx
        have HB := hK.bel
        have hsec := hK.sec
        have hch := hK.ch
        clear hK
        rw [Nat.sub_zero] at hch
        go_wp2_with fail
        refine (chain_str hch (lst_mem HS.out n 0 (by omega))).mono ?_
        rintro e w5 ⟨⟨t1, rfl, ht1, hl1⟩, hb5⟩
        rw [chain_text S n hn1] at ht1
        go_wp2_with fail
        refine (say_any w5 _ n c S hn1 hn HS.out (HST.out.later (HB.trans (hb5.mono HB.size)))).mono ?_
        rintro e w6 ⟨⟨t2, rfl, ht2⟩, rfl⟩
        obtain rfl : t2 = t1 := same_string (by rw [ht1, ht2])
        have HB5 : Hid _ := HB.trans (hb5.mono HB.size)
        by_cases h29 : 2 ≤ n ∧ n ≤ 9
        · obtain ⟨h2, h9⟩ := h29
          obtain ⟨q, rfl, hq⟩ := hsec h2
          have hq5 : Hid _ := Chain.later hb5 _ _ hq
          have F : Hid _ := chain_tail S n h2 h9
          have e1 : w6.cell? ⟨bk, off, none⟩ = some (.string (S 0)) := (HB5.out.cell (p := ⟨bk, off, none⟩) (World.block_lt_of_cell? w2 ⟨bk, off + 0, none⟩ (HC.out 0 (by omega)))).trans (HC.out 0 (by omega))
          have hS0 := HS.out 0 (by omega)
          have T1 : Hid _ := ht1
          clear hsec hq hch ht1 ht2 hb5 HB
          have h2' : (2 : Int) ≤ (n : Int) := by omega
          have h9' : (n : Int) ≤ 9 := by omega
          have y1 : (⟨#[91]⟩ : ByteArray).size = 1 := rfl
          have y2 : (⟨#[93]⟩ : ByteArray).size = 1 := rfl
          have z0 : (0 : Int) < (n : Int) := by omega
          have z0' : 0 < n := by omega
          have z1 : ¬ 9223372036854775807 < (S 0).size + 1 := by omega
          go_wp2_with fail
          go_region_held3 (fun w' => w'.cell? ⟨bk, off, none⟩ = some (.string (S 0))) (first | assumption | go_keep)
            (first | (go_at_call 8; refine (second_str _ hq5.out (lst_mem HS.out (n - 1) 1 (by omega)) e1 ?_).mono ?_; (first | exact Below.refl _ _ | exact below_drewN (Below.refl _ _) 1); rintro e w'' ⟨⟨t3, rfl, ht3, hl3⟩, hb7, hc7⟩; have z2 : ¬ 9223372036854775807 < (S 0).size + 1 + t3.size := (by omega); have z3 : ¬ 9223372036854775807 < (S 0).size + 1 + t3.size + 1 := (by omega); obtain rfl : t2 = S 0 ++ ⟨#[91]⟩ ++ t3 ++ ⟨#[93]⟩ := same_string (by rw [T1.out, F.out, app_list, app_list, app_list, ht3])))
          all_goals
            go_wp2_with fail
            go_ret
            exact ⟨rfl, HB5.out.trans (hb7.mono HB5.out.size)⟩
        · clear hsec hch ht1 ht2 hb5 HB
          by_cases hn1' : n = 1
          · subst hn1'
            go_wp2_with fail
            go_quiet (fail)
            go_wp2_with fail
            go_ret
            exact ⟨rfl, below_drewN HB5.out _⟩
          · have h2' : (2 : Int) ≤ (n : Int) := by omega
            have h9' : (9 : Int) < (n : Int) := by omega
            have h9'' : decide ((n : Int) ≤ 9) = false := decide_eq_false (by omega)
            go_wp2_with fail
            go_quiet (fail)
            go_wp2_with fail
            go_ret
            exact ⟨rfl, below_drewN HB5.out _⟩
      · obtain ⟨i, rfl⟩ : ∃ i, rr = i + 1 := ⟨rr - 1, by omega⟩
        obtain rfl : x = (i : Int) := by omega
        clear hx
        have hbl : bk < w2.heap.size := World.block_lt_of_cell? w2 ⟨bk, off + i, none⟩ (HC.out i (by omega))
        have e1 : wr.cell? ⟨bk, off + i, none⟩ = some (.string (S i)) := (hK.bel.cell (p := ⟨bk, off + i, none⟩) hbl).trans (HC.out i (by omega))
        go_wp2_with fail
        refine (mk_node _ (S i) (some ⟨wr.heap.size, 0, none⟩) 1 1 (fun _ => p) (by omega) (by omega) (fun _ => ⟨wr.heap.size, 0, rfl, fun i hi => ?_⟩)).mono ?_
        · obtain rfl : i = 0 := by omega
          rw [cell_of_row _ _ _ _ _ _ (heap_alloc_new wr _)]
          rfl
        rintro e w4 ⟨rfl, d0, d2, dA, hb4⟩
        have hb34 : Below wr.heap.size wr w4 := ((Below.refl _ _).alloc (Nat.le_refl _) _).trans (hb4.mono (by simp))
        simp only [World.size_alloc] at d0 d2 dA
        have hNO : Hid (Node w4 (wr.heap.size + 1) (wr.heap.size + 1 + 1) 1 (S i) (fun _ => p)) := (⟨d0, d2, dA⟩ : Node _ _ _ _ _ _)
        have HK2 : Hid _ := hK.step (by omega) hb34 hNO.out
        clear d0 d2 dA hb4 hb34 hNO
        go_wp2_with fail
        go_roundg i
        case measure => omega
        case rel => exact ⟨i, _, _, by omega, rfl, by simp, rfl, by go_num, HK2.out⟩
end Go.Proofs.Qxb6618659a
