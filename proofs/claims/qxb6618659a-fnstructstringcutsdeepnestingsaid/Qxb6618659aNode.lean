/- writeType of a struct with arguments. -/
import Derived.Test.Qxb6618659aWrite
namespace Go.Proofs.Qxb6618659a
open Go.RowKit
set_option linter.unusedVariables false

/-- The arguments' row in memory: the i-th is a pointer to the struct in block (q i). -/
def Args (W : World) (g m : Nat) (q : Nat → Nat) : Prop := ∀ i, i < m → W.cell? ⟨g, i, none⟩ = some (.iface 26 (.pointer (some ⟨q i, 0, none⟩)))

set_option maxHeartbeats 1000000 in
set_option maxRecDepth 100000 in
/-- At the last level: three dots for whatever has arguments. -/
theorem deep_writes (W : World) (p g m cap : Nat) (s : ByteArray) (hm : 1 ≤ m) (hm2 : m ≤ 4096) (hc : 3 ≤ cap) (h0 : W.cell? ⟨p, 0, none⟩ = some (.string s)) (h2 : W.cell? ⟨p, 2, none⟩ = some (.slice (some ⟨g, 0, none⟩) m m)) :
    Writes W p 8 cap (fun k => ([46, 46, 46], k)) := by
  intro w l k hk1 hk2 hlen hT
  have e0 := hT.cell h0
  have e2 := hT.cell h2
  have ta1 := not_list
  have ta2 := is_struct
  go_enter Try.func13, Try.ntmps13
  go_wp2_with fail
  go_quiet (fail)
  go_wp2_with fail
  refine (writeString_any _ l ⟨#[46, 46, 46]⟩ _ (hT.drewN nq).bd (by show l.length + 3 ≤ _; omega)).mono ?_
  rintro e w1 ⟨rfl, hb, hbel, hk⟩
  have hT2 := (hT.drewN nq).wrote hb hbel hk
  go_wp2_with fail
  refine bodyPost_ret (results_none rfl _ _ _) rfl ?_
  exact ⟨rfl, hT2⟩

theorem node_fin {W : World} {l base L : List UInt8} {s : ByteArray} {G : Nat → Nat → List UInt8 × Nat} {m k K : Nat} {w : World} (h : TB W (L ++ [93]) K w) (hb : base = l ++ s.data.toList ++ [91]) (hL : L = base ++ (runT G m 0 (k - 1)).1) (hK : K = (runT G m 0 (k - 1)).2) :
    TB W (l ++ (nodeT s G m k).1) (nodeT s G m k).2 w := by
  subst hb hL hK
  simpa [nodeT, List.append_assoc] using h

/-- Where the count of names has run out: three dots, and no more. -/
theorem RT.dots {W : World} {G : Nat → Nat → List UInt8 × Nat} {base : List UInt8} {cap m k0 i : Nat} {acc : List UInt8} {w : World} (h : RT W G base cap m k0 i acc 0 w) (hi : i < m) :
    (runT G m 0 k0).1 = acc ++ ((if i = 0 then [] else [44, 32]) ++ [46, 46, 46]) ∧ (runT G m 0 k0).2 = 0 := by
  have e1 := h.eq1
  have e2 := h.eq2
  rw [show m - i = (m - (i + 1)) + 1 from by omega] at e1 e2
  rw [e1, e2]
  unfold runT
  simp

theorem RT.done {W : World} {G : Nat → Nat → List UInt8 × Nat} {base : List UInt8} {cap m k0 : Nat} {acc : List UInt8} {kk : Nat} {w : World} (h : RT W G base cap m k0 m acc kk w) :
    (runT G m 0 k0).1 = acc ∧ (runT G m 0 k0).2 = kk := by
  have e1 := h.eq1
  have e2 := h.eq2
  rw [Nat.sub_self] at e1 e2
  rw [e1, e2]
  simp [runT]

set_option maxHeartbeats 4000000 in
set_option maxRecDepth 100000 in
theorem node_writes (W : World) (p g m lev cap capN : Nat) (s : ByteArray) (q : Nat → Nat) (G : Nat → Nat → List UInt8 × Nat) (hm : 1 ≤ m) (hm2 : m ≤ 4096) (hl : lev < 8) (hs : s.size + 16 + m * (cap + 5) ≤ capN)
    (h0 : W.cell? ⟨p, 0, none⟩ = some (.string s)) (h2 : W.cell? ⟨p, 2, none⟩ = some (.slice (some ⟨g, 0, none⟩) m m)) (ha : Args W g m q)
    (hG : ∀ i, i < m → ∀ k, 1 ≤ k → k ≤ 16 → (G i k).1.length ≤ cap ∧ (G i k).2 ≤ k) (hw : ∀ i, i < m → Writes W (q i) (lev + 1) cap (G i)) :
    Writes W p lev capN (nodeT s G m) := by
  intro w l k hk1 hk2 hlen hT
  have e0 := hT.cell h0
  have e2 := hT.cell h2
  have en : w.cell? ⟨W.heap.size + 1, 0, none⟩ = some (.int .i64 (k : Int)) := cell_of_one hT.nm
  have fn := free_of_one hT.nm
  have ta1 := not_list
  have ta2 := is_struct
  have hlc : ¬ (lev : Int) = 8 := by omega
  have HG : Hid _ := hG
  clear hG
  go_enter Try.func13, Try.ntmps13
  go_wp2_with fail
  go_quiet (fail)
  go_wp2_with fail
  have hT1 := (hT.drewN nq).names (k - 1) (x := (k : Int) - 1) (by omega)
  refine (writeString_any _ l s _ hT1.bd (by omega)).mono ?_
  rintro e w1 ⟨rfl, hb, hbel, hk⟩
  have hT2 := hT1.wrote hb hbel hk
  have hll : (l ++ s.data.toList).length = l.length + s.size := by simp
  clear hT hT1 hb hbel hk e0 e2 en fn
  go_wp2_with fail
  refine (open_any _ (l ++ s.data.toList) _ hT2.bd (by omega)).mono ?_
  rintro e w2 ⟨rfl, hb, hbel, hk⟩
  have hT3 := hT2.wrote hb hbel hk
  clear hT2 hb hbel hk
  go_wp2_with fail
  go_loopg [61] m (fun g' t wr => ∃ (i : Nat) (acc : List UInt8) (kk : Nat), i ≤ m ∧ g' = m - i ∧ t = .int .i64 (i : Int) ∧ RT W G (l ++ s.data.toList ++ [91]) cap m (k - 1) i acc kk wr)
  case atStart => exact ⟨0, [], k - 1, by omega, by omega, rfl, RT.start hT3 (by omega)⟩
  case round =>
    clear hT3
    obtain ⟨i, acc, kk, him, rfl, rfl, hR⟩ := hrel
    have hacc := hR.len
    have hmul : i * (cap + 2) ≤ m * (cap + 5) := Nat.mul_le_mul him (by omega)
    have hbl : (l ++ s.data.toList ++ [91] ++ acc).length = l.length + s.size + 1 + acc.length := by simp; omega
    by_cases hlt : i < m
    · have ea := hR.tb.cell (ha i hlt)
      have hmul2 : (i + 1) * (cap + 2) ≤ m * (cap + 5) := Nat.mul_le_mul (by omega) (by omega)
      rw [Nat.succ_mul] at hmul2
      by_cases hi0 : i = 0
      · subst hi0
        have hT4 := hR.tb
        have en : wr.cell? ⟨W.heap.size + 1, 0, none⟩ = some (.int .i64 (kk : Int)) := cell_of_one hT4.nm
        by_cases hk0 : kk = 0
        · subst hk0
          obtain ⟨f1, f2⟩ := hR.dots hlt
          have F1 : Hid _ := f1
          have F2 : Hid _ := f2
          clear f1 f2
          go_wp2_with fail
          refine (writeString_any _ (l ++ s.data.toList ++ [91] ++ acc) ⟨#[46, 46, 46]⟩ _ hT4.bd (by show _ + 3 ≤ _; omega)).mono ?_
          rintro e w5 ⟨rfl, hb, hbel, hk⟩
          have hT5 := hT4.wrote hb hbel hk
          clear hb hbel hk
          go_wp2_with fail
          refine (close_any _ ((l ++ s.data.toList ++ [91] ++ acc) ++ (⟨#[46, 46, 46]⟩ : ByteArray).data.toList) _ hT5.bd (by rw [List.length_append]; show _ + 3 + 1 ≤ _; omega)).mono ?_
          rintro e w6 ⟨rfl, hb, hbel, hk⟩
          have hT6 := hT5.wrote hb hbel hk
          clear hb hbel hk
          go_wp2_with fail
          go_end0
          exact ⟨rfl, node_fin hT6 rfl (by rw [F1.out]; simp) F2.out.symm⟩
        · have hk0' : ¬ (kk : Int) = 0 := by omega
          go_wp2_with fail
          refine (hw 0 hlt _ (l ++ s.data.toList ++ [91] ++ acc) kk (by omega) hR.le (by omega) hT4).mono ?_
          rintro e w5 ⟨rfl, hT5⟩
          go_wp2_with fail
          go_roundg (m - (0 + 1))
          case measure => omega
          case rel => exact ⟨0 + 1, _, _, by omega, rfl, by go_num, hR.step hlt hk0 (HG.out 0 hlt kk (by omega) hR.le) (by simp) hT5⟩
      · have hi0' : (0 : Int) < (i : Int) := by omega
        go_wp2_with fail
        refine (writeString_any _ (l ++ s.data.toList ++ [91] ++ acc) ⟨#[44, 32]⟩ _ hR.tb.bd (by show _ + 2 ≤ _; omega)).mono ?_
        rintro e w4 ⟨rfl, hb, hbel, hk⟩
        have hT4 : TB W (l ++ s.data.toList ++ [91] ++ acc ++ [44, 32]) kk w4 := hR.tb.wrote hb hbel hk
        clear hb hbel hk
        have en : w4.cell? ⟨W.heap.size + 1, 0, none⟩ = some (.int .i64 (kk : Int)) := cell_of_one hT4.nm
        have hl4 : (l ++ s.data.toList ++ [91] ++ acc ++ [44, 32]).length ≤ l.length + s.size + 3 + acc.length := by simp; omega
        by_cases hk0 : kk = 0
        · subst hk0
          obtain ⟨f1, f2⟩ := hR.dots hlt
          have F1 : Hid _ := f1
          have F2 : Hid _ := f2
          clear f1 f2
          go_wp2_with fail
          refine (writeString_any _ (l ++ s.data.toList ++ [91] ++ acc ++ [44, 32]) ⟨#[46, 46, 46]⟩ _ hT4.bd (by show _ + 3 ≤ _; omega)).mono ?_
          rintro e w5 ⟨rfl, hb, hbel, hk⟩
          have hT5 := hT4.wrote hb hbel hk
          clear hb hbel hk
          go_wp2_with fail
          refine (close_any _ ((l ++ s.data.toList ++ [91] ++ acc ++ [44, 32]) ++ (⟨#[46, 46, 46]⟩ : ByteArray).data.toList) _ hT5.bd (by rw [List.length_append]; show _ + 3 + 1 ≤ _; omega)).mono ?_
          rintro e w6 ⟨rfl, hb, hbel, hk⟩
          have hT6 := hT5.wrote hb hbel hk
          clear hb hbel hk
          go_wp2_with fail
          go_end0
          exact ⟨rfl, node_fin hT6 rfl (by rw [F1.out]; simp [hi0]) F2.out.symm⟩
        · have hk0' : ¬ (kk : Int) = 0 := by omega
          go_wp2_with fail
          refine (hw i hlt _ (l ++ s.data.toList ++ [91] ++ acc ++ [44, 32]) kk (by omega) hR.le (by omega) hT4).mono ?_
          rintro e w5 ⟨rfl, hT5⟩
          go_wp2_with fail
          go_roundg (m - (i + 1))
          case measure => omega
          case rel => exact ⟨i + 1, _, _, by omega, rfl, by go_num, hR.step hlt hk0 (HG.out i hlt kk (by omega) hR.le) (by simp [hi0]) hT5⟩
    · obtain rfl : m = i := by omega
      obtain ⟨f1, f2⟩ := hR.done
      have F1 : Hid _ := f1
      have F2 : Hid _ := f2
      clear f1 f2
      go_wp2_with fail
      refine (close_any _ (l ++ s.data.toList ++ [91] ++ acc) _ hR.tb.bd (by omega)).mono ?_
      rintro e w6 ⟨rfl, hb, hbel, hk⟩
      have hT6 := hR.tb.wrote hb hbel hk
      clear hb hbel hk
      go_wp2_with fail
      go_end0
      exact ⟨rfl, node_fin hT6 rfl (by rw [F1.out]) F2.out.symm⟩

end Go.Proofs.Qxb6618659a
