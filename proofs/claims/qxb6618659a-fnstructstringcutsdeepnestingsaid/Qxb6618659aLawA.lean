/- The law FnStructStringShowsArgsAndNests: its own walk. -/
import Derived.Test.Qxb6618659aShow
namespace Go.Proofs.Qxb6618659a
open Go.RowKit
set_option linter.unusedVariables false

/-- A struct without arguments, with its name s, in block p. -/
structure Leaf (w : World) (p : Nat) (s : ByteArray) : Prop where
  c0 : w.cell? ⟨p, 0, none⟩ = some (.string s)
  c2 : w.cell? ⟨p, 2, none⟩ = some (.slice none 0 0)
/-- A struct with m arguments, those in the blocks q. -/
structure Node (w : World) (p g m : Nat) (s : ByteArray) (q : Nat → Nat) : Prop where
  c0 : w.cell? ⟨p, 0, none⟩ = some (.string s)
  c2 : w.cell? ⟨p, 2, none⟩ = some (.slice (some ⟨g, 0, none⟩) m m)
  args : Args w g m q

theorem later {w w' : World} (hb : Below w.heap.size w w') {p o : Nat} {v : Value} (h : w.cell? ⟨p, o, none⟩ = some v) : w'.cell? ⟨p, o, none⟩ = some v :=
  (hb.cell (p := ⟨p, o, none⟩) (World.block_lt_of_cell? w _ h)).trans h
theorem Leaf.later {w w' : World} {p : Nat} {s : ByteArray} (h : Leaf w p s) (hb : Below w.heap.size w w') : Leaf w' p s := ⟨Qxb6618659a.later hb h.c0, Qxb6618659a.later hb h.c2⟩
theorem Node.later {w w' : World} {p g m : Nat} {s : ByteArray} {q : Nat → Nat} (h : Node w p g m s q) (hb : Below w.heap.size w w') : Node w' p g m s q :=
  ⟨Qxb6618659a.later hb h.c0, Qxb6618659a.later hb h.c2, fun i hi => Qxb6618659a.later hb (h.args i hi)⟩
theorem Strs.later {w w' : World} {o : Option Addr} {m : Nat} {S : Nat → ByteArray} (h : Strs w o m S) (hb : Below w.heap.size w w') : Strs w' o m S := by
  intro hm
  obtain ⟨b, off, rfl, hc⟩ := h hm
  exact ⟨b, off, rfl, fun i hi => Qxb6618659a.later hb (hc i hi)⟩

/-- The loop that makes the arguments' structs: i of them made. -/
structure KM (w : World) (S : Nat → ByteArray) (m i : Nat) (q : Nat → Nat) (wr : World) : Prop where
  bel : Below w.heap.size w wr
  row : Row wr w.heap.size 26 m (fun k => if k < i then .pointer (some ⟨q k, 0, none⟩) else .pointer none)
  leaf : ∀ k, k < i → Leaf wr (q k) (S k) ∧ q k ≠ w.heap.size

theorem KM.start (w : World) (S : Nat → ByteArray) (m : Nat) : KM w S m 0 (fun _ => 0) (w.alloc (.cells (madeCells #[.pointer none] m) 26)) :=
  ⟨(Below.refl _ _).alloc (Nat.le_refl _) _, (Row.made w (.pointer none) 26 m).congr (fun k _ => by simp), fun k hk => absurd hk (by omega)⟩

theorem set_later {w : World} {g i : Nat} {v : Value} {p o : Nat} {u : Value} (h : w.cell? ⟨p, o, none⟩ = some u) (hne : p ≠ g) : (w.setCell ⟨g, i, none⟩ v).cell? ⟨p, o, none⟩ = some u := by
  have e : (w.setCell ⟨g, i, none⟩ v).heap[p]? = w.heap[p]? := heap_setCell_other w ⟨g, i, none⟩ p v hne
  rw [← h]
  simp only [World.cell?, e]

theorem KM.step {w : World} {S : Nat → ByteArray} {m i : Nat} {q : Nat → Nat} {wr w1 : World} (h : KM w S m i q wr) (hb : Below wr.heap.size wr w1) (hl : Leaf w1 wr.heap.size (S i)) :
    KM w S m (i + 1) (upd q i wr.heap.size) (w1.setCell ⟨w.heap.size, i, none⟩ (.pointer (some ⟨wr.heap.size, 0, none⟩))) := by
  have hlt := h.row.lt
  refine ⟨(h.bel.trans (hb.mono h.bel.size)).setCell (Nat.le_refl _) _, ((h.row.below hb hlt).set i _).congr (fun k hk => ?_), fun k hk => ?_⟩
  · simp only [upd]
    by_cases e : k = i
    · subst e; simp
    · rw [if_neg e, if_neg e]
      by_cases e2 : k < i
      · rw [if_pos e2, if_pos (by omega)]
      · rw [if_neg e2, if_neg (by omega)]
  · by_cases e : k = i
    · subst e
      simp only [upd, if_true]
      exact ⟨⟨set_later hl.c0 (by omega), set_later hl.c2 (by omega)⟩, by omega⟩
    · simp only [upd]
      rw [if_neg e]
      obtain ⟨h1, h2⟩ := h.leaf k (by omega)
      have h3 := h1.later hb
      exact ⟨⟨set_later h3.c0 h2, set_later h3.c2 h2⟩, h2⟩

set_option maxHeartbeats 1000000 in
set_option maxRecDepth 100000 in
theorem lawA_out (w : World) (s1 s2 : ByteArray) (o : Option Addr) (m c : Nat) (S : Nat → ByteArray) (h1 : s1.size ≤ 9223372036854775807) (h2 : s2.size ≤ 9223372036854775807) (hm : m ≤ 9223372036854775807) (hS : ∀ i, i < m → (S i).size ≤ 9223372036854775807) (h : Strs w o m S)
    (hq : ¬ (m ≤ 4096 ∧ s1.size + s2.size ≤ 1048576)) :
    Calls Try.prog 3 #[.string s1, .string s2, .slice o m c] w fun e w' => e = .returned (.bool true) ∧ Below w.heap.size w w' := by
  go_enter Try.func3, Try.ntmps3
  go_wp2_with fail
  refine (bytes1_any w s1 s2 o m c S h1 h2 hm hS h).mono ?_
  rintro e w1 ⟨⟨b, rfl⟩, rfl⟩
  clear hS h
  go_wp2_with fail
  all_goals
    go_ret
    exact ⟨rfl, Below.refl _ _⟩

theorem leafT_ok {S : Nat → ByteArray} {m : Nat} (hS : ∀ i, i < m → (S i).size ≤ 1048576) : ∀ i, i < m → ∀ k, 1 ≤ k → k ≤ 16 → (leafT S i k).1.length ≤ 1048576 ∧ (leafT S i k).2 ≤ k :=
  fun i hi k _ _ => ⟨by simpa [leafT] using hS i hi, by simp [leafT]⟩

theorem in_writes {w : World} {p g m lev : Nat} {s : ByteArray} {S : Nat → ByteArray} {q : Nat → Nat} (hm1 : 1 ≤ m) (hm : m ≤ 4096) (hl : lev < 7) (hs : s.size ≤ 1048576) (hS : ∀ i, i < m → (S i).size ≤ 1048576) (hN : Node w p g m s q) (hL : ∀ k, k < m → Leaf w (q k) (S k)) :
    Writes w p lev 8589934592 (nodeT s (leafT S) m) :=
  node_writes w p g m lev 1048576 8589934592 s q (leafT S) hm1 hm (by omega) (by omega) hN.c0 hN.c2 hN.args (leafT_ok hS)
    (fun i hi => leaf_writes w (q i) (lev + 1) 1048576 (S i) (by omega) (hS i hi) (hL i hi).c0 (hL i hi).c2)

theorem node_ok {s : ByteArray} {S : Nat → ByteArray} {m : Nat} (hm : m ≤ 4096) (hs : s.size ≤ 1048576) (hS : ∀ i, i < m → (S i).size ≤ 1048576) : ∀ k, 1 ≤ k → k ≤ 16 → (nodeT s (leafT S) m k).1.length ≤ 8589934592 ∧ (nodeT s (leafT S) m k).2 ≤ k := by
  intro k h1 h2
  obtain ⟨a, b⟩ := runT_len (leafT_ok hS) m 0 (k - 1) (by omega) (by omega)
  have hl : (nodeT s (leafT S) m k).1.length = s.size + 1 + (runT (leafT S) m 0 (k - 1)).1.length + 1 := by simp [nodeT]; omega
  refine ⟨by rw [hl]; omega, ?_⟩
  show (runT (leafT S) m 0 (k - 1)).2 ≤ k
  omega

theorem show_len {s : ByteArray} {S : Nat → ByteArray} {m k : Nat} (hm : m ≤ 4096) (hk : k ≤ 15) (hs : s.size ≤ 1048576) (hS : ∀ i, i < m → (S i).size ≤ 1048576) : (showT s S m k).length ≤ 8589934592 := by
  obtain ⟨a, b⟩ := runT_len (leafT_ok hS) m 0 k (by omega) (by omega)
  have hl : (showT s S m k).length = s.size + 1 + (runT (leafT S) m 0 k).1.length + 1 := by simp [showT]; omega
  rw [hl]; omega

/-- Fewer arguments than names to be shown: their number does not matter. -/
theorem runT_any (S : Nat → ByteArray) : ∀ j i k k', j ≤ k → j ≤ k' → (runT (leafT S) j i k).1 = (runT (leafT S) j i k').1
  | 0, i, k, k', _, _ => by simp [runT]
  | j + 1, i, k, k', h, h' => by
    have ih := runT_any S j (i + 1) (k - 1) (k' - 1) (by omega) (by omega)
    simp only [runT, if_neg (show ¬ k = 0 by omega), if_neg (show ¬ k' = 0 by omega)]
    show _ ++ (S i).data.toList ++ (runT (leafT S) j (i + 1) (k - 1)).1 = _ ++ (S i).data.toList ++ (runT (leafT S) j (i + 1) (k' - 1)).1
    rw [ih]

theorem out_writes {w : World} {p g pI gI m : Nat} {s1 s2 : ByteArray} {S : Nat → ByteArray} {q : Nat → Nat} (hm1 : 1 ≤ m) (hm : m ≤ 4096) (hs1 : s1.size ≤ 1048576) (hs : s2.size ≤ 1048576) (hS : ∀ i, i < m → (S i).size ≤ 1048576)
    (hO : Node w p g 1 s1 (fun _ => pI)) (hN : Node w pI gI m s2 q) (hL : ∀ k, k < m → Leaf w (q k) (S k)) : Writes w p 0 17179869184 (nodeT s1 (fun _ => nodeT s2 (leafT S) m) 1) := by
  have h1 : s1.size + 16 + 1 * (8589934592 + 5) ≤ 17179869184 := by omega
  have hG : ∀ i, i < 1 → ∀ k, 1 ≤ k → k ≤ 16 → (nodeT s2 (leafT S) m k).1.length ≤ 8589934592 ∧ (nodeT s2 (leafT S) m k).2 ≤ k := fun _ _ k h1 h2 => node_ok hm hs hS k h1 h2
  have hw : ∀ i, i < 1 → Writes w pI (0 + 1) 8589934592 (nodeT s2 (leafT S) m) := fun _ _ => in_writes hm1 hm (by omega) hs hS hN hL
  exact node_writes w p g 1 0 8589934592 17179869184 s1 (fun _ => pI) (fun _ => nodeT s2 (leafT S) m) (Nat.le_refl 1) (by omega) (by omega) h1 hO.c0 hO.c2 hO.args hG hw

theorem out_text (s1 s2 : ByteArray) (S : Nat → ByteArray) (m : Nat) : (nodeT s1 (fun _ => nodeT s2 (leafT S) m) 1 16).1 = s1.data.toList ++ [91] ++ showT s2 S m 14 ++ [93] := by
  simp [nodeT, runT, showT]

theorem out0_writes {w : World} {p g pI : Nat} {s1 s2 : ByteArray} (hs1 : s1.size ≤ 1048576) (hs : s2.size ≤ 1048576) (hO : Node w p g 1 s1 (fun _ => pI)) (hN : Leaf w pI s2) : Writes w p 0 4194304 (nodeT s1 (fun _ k => (s2.data.toList, k - 1)) 1) := by
  have h1 : s1.size + 16 + 1 * (1048576 + 5) ≤ 4194304 := by omega
  have hG : ∀ i, i < 1 → ∀ k, 1 ≤ k → k ≤ 16 → (s2.data.toList, k - 1).1.length ≤ 1048576 ∧ (s2.data.toList, k - 1).2 ≤ k := fun _ _ k h1 h2 => ⟨by simpa using hs, by simp⟩
  have hw : ∀ i, i < 1 → Writes w pI (0 + 1) 1048576 (fun k => (s2.data.toList, k - 1)) := fun _ _ => leaf_writes w pI (0 + 1) 1048576 s2 (by omega) hs hN.c0 hN.c2
  exact node_writes w p g 1 0 1048576 4194304 s1 (fun _ => pI) (fun _ k => (s2.data.toList, k - 1)) (Nat.le_refl 1) (by omega) (by omega) h1 hO.c0 hO.c2 hO.args hG hw

theorem out0_text (s1 s2 : ByteArray) : (nodeT s1 (fun _ k => (s2.data.toList, k - 1)) 1 16).1 = s1.data.toList ++ [91] ++ s2.data.toList ++ [93] := by
  simp [nodeT, runT]

theorem show_lit {w : World} {s : ByteArray} {o : Option Addr} {m c : Nat} (k : Nat) (hk : 1 ≤ k) (hk2 : k ≤ 15) (x : Int) (hx : x = (k : Int)) {S : Nat → ByteArray} (hm : 1 ≤ m) (hm2 : m ≤ 4096) (hs : s.size ≤ 1048576) (hS : ∀ i, i < m → (S i).size ≤ 1048576) (h : Strs w o m S) :
    Calls Try.prog 9 #[.string s, .slice o m c, .int .i64 x] w fun e w' => (∃ t : ByteArray, e = .returned (.string t) ∧ t.data.toList = showT s S m k) ∧ w' = w := by
  subst hx
  exact show_any w s o m c k S hm hm2 hk hk2 hs hS h

theorem strT {w : World} {p g m cap : Nat} {F : Nat → List UInt8 × Nat} (hm : 1 ≤ m) (hm2 : m ≤ 4096) (h2 : w.cell? ⟨p, 2, none⟩ = some (.slice (some ⟨g, 0, none⟩) m m)) (hc : cap ≤ 70368744177664) (hw : Writes w p 0 cap F) :
    Calls Try.prog 8 #[.pointer (some ⟨p, 0, none⟩)] w fun e w' => (∃ t : ByteArray, e = .returned (.string t) ∧ t.data.toList = (F 16).1) ∧ Below w.heap.size w w' :=
  (str_node w p g m cap F hm hm2 h2 hc hw).mono (fun e w' ⟨he, hb⟩ => ⟨⟨_, he, rfl⟩, hb⟩)

set_option maxHeartbeats 400000 in
set_option maxRecDepth 100000 in
theorem lawA_in (w : World) (s1 s2 : ByteArray) (o : Option Addr) (m c : Nat) (S : Nat → ByteArray) (hm : m ≤ 4096) (hss : s1.size + s2.size ≤ 1048576) (hS : ∀ i, i < m → (S i).size ≤ 9223372036854775807) (h : Strs w o m S) :
    Calls Try.prog 3 #[.string s1, .string s2, .slice o m c] w fun e w' => e = .returned (.bool true) ∧ Below w.heap.size w w' := by
  have hmk := make_run (P := Try.prog) Try.underlying25 Try.info26 rfl m (by omega) (by omega)
  have HS0 : Hid _ := hS
  have HST : Hid (Strs w o m S) := h
  clear hS h
  go_enter Try.func3, Try.ntmps3
  go_wp2_with fail
  refine (bytes1_any w s1 s2 o m c S (by omega) (by omega) (by omega) HS0.out HST.out).mono ?_
  rintro e w1 ⟨⟨b, rfl⟩, rfl⟩
  cases b with
  | false =>
    go_wp2_with fail
    go_ret
    exact ⟨rfl, Below.refl _ _⟩
  | true =>
    go_wp2_with fail
    refine (spend_any w1 _ o m c S (by omega) (by omega) hm HS0.out HST.out).mono ?_
    rintro e w2 ⟨⟨r, rfl, hr⟩, rfl⟩
    by_cases hr0 : r < 0
    · go_wp2_with fail
      go_ret
      exact ⟨rfl, Below.refl _ _⟩
    have HS : Hid _ := hr (by omega)
    clear hr HS0
    go_wp2_with fail
    go_loopg [47] m (fun g t wr => ∃ (i : Nat) (q : Nat → Nat), i ≤ m ∧ g = m - i ∧ t = .int .i64 (i : Int) ∧ KM w2 S m i q wr)
    case atStart => exact ⟨0, _, by omega, by omega, rfl, KM.start w2 S m⟩
    case round =>
      obtain ⟨i, q, him, rfl, rfl, hK⟩ := hrel
      by_cases hlt : i < m
      · obtain ⟨bk, off, rfl, hc⟩ := (HST.out.later (w' := w2) (Below.refl _ _)) (by omega)
        have hbl : bk < w2.heap.size := World.block_lt_of_cell? w2 ⟨bk, off + i, none⟩ (hc i hlt)
        have e1 : wr.cell? ⟨bk, off + i, none⟩ = some (.string (S i)) := (hK.bel.cell (p := ⟨bk, off + i, none⟩) hbl).trans (hc i hlt)
        go_wp2_with fail
        refine (mk_leaf wr (S i) none 0).mono ?_
        rintro e w3 ⟨rfl, d0, d2, hb3⟩
        have hr3 := hK.row.below hb3 hK.row.lt
        have e2 := hr3.cell hlt
        have e3 := hr3.free i
        simp only [Nat.lt_irrefl, if_false] at e2
        go_wp2_with fail
        go_roundg (m - (i + 1))
        case measure => omega
        case rel => exact ⟨i + 1, _, by omega, rfl, by go_num, hK.step hb3 ⟨d0, d2⟩⟩
      · obtain rfl : m = i := by omega
        clear him hr0 hmk
        have hs1 : s1.size ≤ 1048576 := by omega
        have hs2 : s2.size ≤ 1048576 := by omega
        by_cases hm0 : m = 0
        · subst hm0
          go_wp2_with fail
          refine (mk_leaf wr s2 (some ⟨w2.heap.size, 0, none⟩) 0).mono ?_
          rintro e w3 ⟨rfl, d0, d2, hb3⟩
          have hN : Leaf w3 wr.heap.size s2 := ⟨d0, d2⟩
          have HB : Hid (Below w2.heap.size w2 w3) := hK.bel.trans (hb3.mono hK.bel.size)
          clear d0 d2 hb3 hK
          generalize wr.heap.size = pI at *
          go_wp2_with fail
          refine (mk_node _ s1 (some ⟨w3.heap.size, 0, none⟩) 1 1 (fun _ => pI) (by omega) (by omega) (fun _ => ⟨w3.heap.size, 0, rfl, fun i hi => ?_⟩)).mono ?_
          · obtain rfl : i = 0 := by omega
            rw [cell_of_row _ _ _ _ _ _ (heap_alloc_new w3 _)]
            rfl
          rintro e w4 ⟨rfl, d0, d2, dA, hb4⟩
          have hb34 : Below w3.heap.size w3 w4 := ((Below.refl _ _).alloc (Nat.le_refl _) _).trans (hb4.mono (by simp))
          simp only [World.size_alloc] at d0 d2 dA
          have hNO : Node w4 (w3.heap.size + 1) (w3.heap.size + 1 + 1) 1 s1 (fun _ => pI) := ⟨d0, d2, dA⟩
          have hN := hN.later hb34
          have HB : Hid (Below w2.heap.size w2 w4) := HB.out.trans (hb34.mono HB.out.size)
          clear d0 d2 dA hb4 hb34
          go_wp2_with fail
          refine (str_leaf w4 pI s2 hN.c0 hN.c2).mono ?_
          rintro e w5 ⟨rfl, hb5⟩
          have hNO := hNO.later hb5
          have hN := hN.later hb5
          have HB : Hid (Below w2.heap.size w2 w5) := HB.out.trans (hb5.mono HB.out.size)
          clear hb5
          go_wp2_with fail
          refine (strT (Nat.le_refl 1) (by omega) hNO.c2 (by omega) (out0_writes hs1 hs2 hNO hN)).mono ?_
          rintro e w6 ⟨⟨tout, rfl, htout⟩, hb6⟩
          have HB : Hid (Below w2.heap.size w2 w6) := HB.out.trans (hb6.mono HB.out.size)
          have hto : tout = s1 ++ ⟨#[91]⟩ ++ s2 ++ ⟨#[93]⟩ := same_string (by rw [htout, app_list, app_list, app_list, out0_text])
          clear hb6 htout hN hNO
          subst hto
          have y1 : (⟨#[91]⟩ : ByteArray).size = 1 := rfl
          have y2 : (⟨#[93]⟩ : ByteArray).size = 1 := rfl
          go_wp2_with fail
          refine (show_none w6 s2 o c 15).mono ?_
          rintro e w7 ⟨rfl, rfl⟩
          go_wp2_with fail
          refine (show_none w7 s2 o c 14).mono ?_
          rintro e w8 ⟨rfl, rfl⟩
          go_wp2_with fail
          go_ret
          exact ⟨rfl, HB.out⟩
        · have hm1 : 1 ≤ m := by omega
          go_wp2_with fail
          refine (mk_node wr s2 (some ⟨w2.heap.size, 0, none⟩) m m q hm1 hm (fun _ => ⟨w2.heap.size, 0, rfl, fun i hi => by rw [Nat.zero_add]; have := hK.row.cell hi; rw [if_pos hi] at this; exact this⟩)).mono ?_
          rintro e w3 ⟨rfl, d0, d2, dA, hb3⟩
          have hN : Node w3 wr.heap.size (wr.heap.size + 1) m s2 q := ⟨d0, d2, dA⟩
          have hL : Hid (∀ k, k < m → Leaf w3 (q k) (S k)) := fun k hk => (hK.leaf k hk).1.later hb3
          have HB : Hid (Below w2.heap.size w2 w3) := hK.bel.trans (hb3.mono hK.bel.size)
          clear d0 d2 dA hb3 hK
          generalize wr.heap.size = pI at *
          go_wp2_with fail
          refine (mk_node _ s1 (some ⟨w3.heap.size, 0, none⟩) 1 1 (fun _ => pI) (by omega) (by omega) (fun _ => ⟨w3.heap.size, 0, rfl, fun i hi => ?_⟩)).mono ?_
          · obtain rfl : i = 0 := by omega
            rw [cell_of_row _ _ _ _ _ _ (heap_alloc_new w3 _)]
            rfl
          rintro e w4 ⟨rfl, d0, d2, dA, hb4⟩
          have hb34 : Below w3.heap.size w3 w4 := ((Below.refl _ _).alloc (Nat.le_refl _) _).trans (hb4.mono (by simp))
          simp only [World.size_alloc] at d0 d2 dA
          have hNO : Node w4 (w3.heap.size + 1) (w3.heap.size + 1 + 1) 1 s1 (fun _ => pI) := ⟨d0, d2, dA⟩
          have hN := hN.later hb34
          have hL : Hid (∀ k, k < m → Leaf w4 (q k) (S k)) := fun k hk => (hL.out k hk).later hb34
          have HB : Hid (Below w2.heap.size w2 w4) := HB.out.trans (hb34.mono HB.out.size)
          clear d0 d2 dA hb4 hb34
          go_wp2_with fail
          refine (strT hm1 hm hN.c2 (by omega) (in_writes (lev := 0) hm1 hm (by omega) hs2 HS.out hN hL.out)).mono ?_
          rintro e w5 ⟨⟨tin, rfl, htin⟩, hb5⟩
          have hNO := hNO.later hb5
          have hN := hN.later hb5
          have hL : Hid (∀ k, k < m → Leaf w5 (q k) (S k)) := fun k hk => (hL.out k hk).later hb5
          have HB : Hid (Below w2.heap.size w2 w5) := HB.out.trans (hb5.mono HB.out.size)
          have HI : Hid (tin.data.toList = showT s2 S m 15) := htin
          clear hb5 htin
          go_wp2_with fail
          refine (strT (Nat.le_refl 1) (by omega) hNO.c2 (by omega) (out_writes hm1 hm hs1 hs2 HS.out hNO hN hL.out)).mono ?_
          rintro e w6 ⟨⟨tout, rfl, htout⟩, hb6⟩
          have HB : Hid (Below w2.heap.size w2 w6) := HB.out.trans (hb6.mono HB.out.size)
          have HO : Hid (tout.data.toList = s1.data.toList ++ [91] ++ showT s2 S m 14 ++ [93]) := by
            show _ = _
            rw [htout, out_text]
          clear hb6 htout hN hNO hL
          have HST6 : Hid (Strs w6 o m S) := HST.out.later HB.out
          go_wp2_with fail
          refine (show_lit 15 (by omega) (by omega) 15 rfl hm1 hm hs2 HS.out HST6.out).mono ?_
          rintro e w7 ⟨⟨t15, rfl, ht15⟩, rfl⟩
          obtain rfl : t15 = tin := same_string (by rw [ht15, HI.out])
          clear ht15
          go_wp2_with fail
          refine (show_lit 14 (by omega) (by omega) 14 rfl hm1 hm hs2 HS.out HST6.out).mono ?_
          rintro e w8 ⟨⟨t14, rfl, ht14⟩, rfl⟩
          have HT14 : Hid (t14.data.toList = showT s2 S m 14) := ht14
          have z14 : t14.size ≤ 8589934592 := by
            have := show_len (k := 14) hm (by omega) hs2 HS.out
            rw [← ht14] at this; simpa using this
          have z15 : t15.size ≤ 8589934592 := by
            have := show_len (k := 15) hm (by omega) hs2 HS.out
            rw [← HI.out] at this; simpa using this
          clear ht14
          have hto : tout = s1 ++ ⟨#[91]⟩ ++ t14 ++ ⟨#[93]⟩ := same_string (by rw [HO.out, app_list, app_list, app_list, HT14.out])
          subst hto
          have y1 : (⟨#[91]⟩ : ByteArray).size = 1 := rfl
          have y2 : (⟨#[93]⟩ : ByteArray).size = 1 := rfl
          by_cases hm14 : m ≤ 14
          · obtain rfl : t14 = t15 := same_string (by rw [HT14.out, HI.out]; unfold showT; rw [runT_any S m 0 14 15 hm14 (by omega)])
            go_wp2_with fail
            go_ret
            exact ⟨rfl, HB.out⟩
          · have hm14' : ¬ (m : Int) ≤ 14 := by omega
            go_wp2_with fail
            go_ret
            exact ⟨rfl, HB.out⟩

end Go.Proofs.Qxb6618659a
