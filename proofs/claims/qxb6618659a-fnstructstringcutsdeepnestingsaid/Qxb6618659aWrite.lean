/- writeType. -/
import Derived.Test.Qxb6618659aBld
import Derived.Deep.QuietTactic
import Derived.BigQuiet
import Derived.Deep.LoopGhost
namespace Go.Proofs.Qxb6618659a
open Go.RowKit
set_option linter.unusedVariables false

/-- The world while typeText writes: behind W's blocks the builder (holding l) and the count of names still to be shown. -/
structure TB (W : World) (l : List UInt8) (k : Nat) (w : World) : Prop where
  bd : Bd W.heap.size l w
  nm : w.heap[W.heap.size + 1]? = some (.cells #[.int .i64 (k : Int)] 3 (0, 0))
  bel : Below W.heap.size W w

theorem Bd.other {b : Nat} {l : List UInt8} {w : World} (h : Bd b l w) {g : Nat} {cs : Array Value} {fr : Nat × Nat} (hg : w.heap[g]? = some (.cells cs 3 fr)) (hne : g ≠ b) (v : Value) : Bd b l (w.setCell ⟨g, 0, none⟩ v) := by
  have one : ∀ p, Lib.BuilderAt 49 5 b b p (Lib.byteCells l) w → Lib.BuilderAt 49 5 b b p (Lib.byteCells l) (w.setCell ⟨g, 0, none⟩ v) := by
    rintro p ⟨hB, u, hb, hown, hn⟩
    exact ⟨hB, u, by rw [Below.heap_setCell _ _ _ _ (Ne.symm hne)]; exact hb, ownsRow_setCell_other hown (Lib.ownBlock_ne hown hg (by decide)) v, hn⟩
  rcases h with h | h
  · exact Or.inl (one _ h)
  · exact Or.inr (one _ h)

theorem TB.names {W : World} {l : List UInt8} {k : Nat} {w : World} (h : TB W l k w) (k' : Nat) {x : Int} (hx : x = (k' : Int)) : TB W l k' (w.setCell ⟨W.heap.size + 1, 0, none⟩ (.int .i64 x)) := by
  subst hx
  exact ⟨h.bd.other h.nm (by omega) _, one_setCell h.nm, h.bel.setCell (by simp) _⟩

theorem TB.wrote {W : World} {l l' : List UInt8} {k : Nat} {w w' : World} (h : TB W l k w) (hb : Bd W.heap.size l' w') (hbel : Below W.heap.size w w') (hk : Lib.OthersKept 5 (some W.heap.size) w w') : TB W l' k w' :=
  ⟨hb, hk _ _ h.nm (by simp) (by intro c fz; simp), h.bel.trans hbel⟩

theorem TB.cell {W : World} {l : List UInt8} {k : Nat} {w : World} (h : TB W l k w) {p o : Nat} {v : Value} (hv : W.cell? ⟨p, o, none⟩ = some v) : w.cell? ⟨p, o, none⟩ = some v :=
  (h.bel.cell (p := ⟨p, o, none⟩) (World.block_lt_of_cell? W _ hv)).trans hv

theorem TB.drewN {W : World} {l : List UInt8} {k : Nat} {w : World} (h : TB W l k w) (q : Nat) : TB W l k (w.drewN q) := ⟨h.bd, h.nm, below_drewN h.bel q⟩

/-- What a call of writeType does, whatever the names still to be shown. -/
def Writes (W : World) (p lev cap : Nat) (F : Nat → List UInt8 × Nat) : Prop :=
  ∀ (w : World) (l : List UInt8) (k : Nat), 1 ≤ k → k ≤ 16 → l.length + cap ≤ 70368744177664 → TB W l k w →
    Calls Try.prog 13 #[.pointer (some ⟨W.heap.size, 0, none⟩), .iface 26 (.pointer (some ⟨p, 0, none⟩)), .int .i64 (lev : Int), .pointer (some ⟨W.heap.size + 1, 0, none⟩)] w fun e w' =>
      e = .returned (.tuple #[]) ∧ TB W (l ++ (F k).1) (F k).2 w'

/-- 't.(type)' of a *Struct: no *List; a *Struct. -/
theorem not_list (x : Value) (w : World) : (Instr.typeAssert (.iface 26 x) 44 52 true).run Try.prog w = .ok (.tuple #[.pointer none, .bool false]) w := by kernel_rfl
theorem is_struct (x : Value) (w : World) : (Instr.typeAssert (.iface 26 x) 44 26 true).run Try.prog w = .ok (.tuple #[x, .bool true]) w := by kernel_rfl

set_option maxHeartbeats 1000000 in
set_option maxRecDepth 100000 in
theorem leaf_writes (W : World) (p lev cap : Nat) (s : ByteArray) (hl : lev ≤ 8) (hs : s.size ≤ cap) (h0 : W.cell? ⟨p, 0, none⟩ = some (.string s)) (h2 : W.cell? ⟨p, 2, none⟩ = some (.slice none 0 0)) :
    Writes W p lev cap (fun k => (s.data.toList, k - 1)) := by
  intro w l k hk1 hk2 hlen hT
  have e0 := hT.cell h0
  have e2 := hT.cell h2
  have en : w.cell? ⟨W.heap.size + 1, 0, none⟩ = some (.int .i64 (k : Int)) := cell_of_one hT.nm
  have fn := free_of_one hT.nm
  have ta1 := not_list
  have ta2 := is_struct
  have hlc : (lev : Int) = 8 ∨ ¬ (lev : Int) = 8 := by omega
  rcases hlc with hlc | hlc
  all_goals
    go_enter Try.func13, Try.ntmps13
    go_wp2_with fail
    go_quiet (fail)
    go_wp2_with fail
    have hT1 := (hT.drewN nq).names (k - 1) (x := (k : Int) - 1) (by omega)
    refine (writeString_any _ l s _ hT1.bd (by omega)).mono ?_
    rintro e w1 ⟨rfl, hb, hbel, hk⟩
    have hT2 := hT1.wrote hb hbel hk
    go_wp2_with fail
    refine bodyPost_ret (results_none rfl _ _ _) rfl ?_
    exact ⟨rfl, hT2⟩

theorem open_any (b : Nat) (l : List UInt8) (w : World) (h : Bd b l w) (hlen : l.length + 1 ≤ 140737488355328) :
    Calls Try.prog 16 #[.pointer (some ⟨b, 0, none⟩), .int .u8 91] w fun e w' => e = .returned .nilIface ∧ Bd b (l ++ [91]) w' ∧ Below b w w' ∧ Lib.OthersKept 5 (some b) w w' := by
  have t := writeByte_any b l 91 w h hlen
  rw [show (((91 : UInt8).toNat : Nat) : Int) = 91 from rfl] at t
  exact t
theorem close_any (b : Nat) (l : List UInt8) (w : World) (h : Bd b l w) (hlen : l.length + 1 ≤ 140737488355328) :
    Calls Try.prog 16 #[.pointer (some ⟨b, 0, none⟩), .int .u8 93] w fun e w' => e = .returned .nilIface ∧ Bd b (l ++ [93]) w' ∧ Below b w w' ∧ Lib.OthersKept 5 (some b) w w' := by
  have t := writeByte_any b l 93 w h hlen
  rw [show (((93 : UInt8).toNat : Nat) : Int) = 93 from rfl] at t
  exact t

/-- The text of the arguments from the i-th on, j of them, k names still to be shown; and what is left of k. -/
def runT (G : Nat → Nat → List UInt8 × Nat) : Nat → Nat → Nat → List UInt8 × Nat
  | 0, _, k => ([], k)
  | j + 1, i, k =>
    if k = 0 then ((if i = 0 then [] else [44, 32]) ++ [46, 46, 46], 0)
    else ((if i = 0 then [] else [44, 32]) ++ (G i k).1 ++ (runT G j (i + 1) (G i k).2).1, (runT G j (i + 1) (G i k).2).2)

/-- The text of a struct with arguments, above the last level. -/
def nodeT (s : ByteArray) (G : Nat → Nat → List UInt8 × Nat) (m : Nat) (k : Nat) : List UInt8 × Nat :=
  (s.data.toList ++ [91] ++ (runT G m 0 (k - 1)).1 ++ [93], (runT G m 0 (k - 1)).2)

theorem runT_len {G : Nat → Nat → List UInt8 × Nat} {cap m : Nat} (hG : ∀ i, i < m → ∀ k, 1 ≤ k → k ≤ 16 → (G i k).1.length ≤ cap ∧ (G i k).2 ≤ k) : ∀ j i k, i + j ≤ m → k ≤ 16 →
    (runT G j i k).1.length ≤ j * (cap + 5) ∧ (runT G j i k).2 ≤ k
  | 0, i, k, _, _ => by simp [runT]
  | j + 1, i, k, hij, hk => by
    have hp : (if i = 0 then ([] : List UInt8) else [44, 32]).length ≤ 2 := by split <;> simp
    unfold runT
    by_cases h0 : k = 0
    · rw [if_pos h0]
      refine ⟨?_, by omega⟩
      rw [Nat.succ_mul]
      simp only [List.length_append, List.length_cons, List.length_nil]
      omega
    · rw [if_neg h0]
      obtain ⟨h1, h2⟩ := hG i (by omega) k (by omega) hk
      obtain ⟨h3, h4⟩ := runT_len hG j (i + 1) (G i k).2 (by omega) (by omega)
      refine ⟨?_, by omega⟩
      rw [Nat.succ_mul]
      simp only [List.length_append]
      omega

/-- One round of the loop over the arguments: what is behind it. -/
structure RT (W : World) (G : Nat → Nat → List UInt8 × Nat) (base : List UInt8) (cap m k0 i : Nat) (acc : List UInt8) (kk : Nat) (w : World) : Prop where
  tb : TB W (base ++ acc) kk w
  eq1 : (runT G m 0 k0).1 = acc ++ (runT G (m - i) i kk).1
  eq2 : (runT G m 0 k0).2 = (runT G (m - i) i kk).2
  len : acc.length ≤ i * (cap + 2)
  le : kk ≤ 16

theorem RT.start {W : World} {G : Nat → Nat → List UInt8 × Nat} {base : List UInt8} {cap m k0 : Nat} {w : World} (h : TB W base k0 w) (hk : k0 ≤ 16) : RT W G base cap m k0 0 [] k0 w :=
  ⟨by simpa using h, by simp, by simp, by simp, hk⟩

theorem RT.step {W : World} {G : Nat → Nat → List UInt8 × Nat} {base : List UInt8} {cap m k0 i : Nat} {acc : List UInt8} {kk : Nat} {w w' : World} (h : RT W G base cap m k0 i acc kk w) (hi : i < m) (hk : kk ≠ 0)
    (hG : (G i kk).1.length ≤ cap ∧ (G i kk).2 ≤ kk) {l' : List UInt8} (hl : l' = base ++ (acc ++ ((if i = 0 then [] else [44, 32]) ++ (G i kk).1))) (ht : TB W l' (G i kk).2 w') :
    RT W G base cap m k0 (i + 1) (acc ++ ((if i = 0 then [] else [44, 32]) ++ (G i kk).1)) (G i kk).2 w' := by
  have e1 := h.eq1
  have e2 := h.eq2
  have hl2 := h.len
  have hle := h.le
  rw [show m - i = (m - (i + 1)) + 1 from by omega] at e1 e2
  unfold runT at e1 e2
  rw [if_neg hk] at e1 e2
  subst hl
  refine ⟨ht, by rw [h.eq1, show m - i = (m - (i + 1)) + 1 from by omega]; conv => lhs; unfold runT
                 rw [if_neg hk]; simp, by rw [h.eq2, show m - i = (m - (i + 1)) + 1 from by omega]; conv => lhs; unfold runT
                                          rw [if_neg hk], ?_, by omega⟩
  have hp : (if i = 0 then ([] : List UInt8) else [44, 32]).length ≤ 2 := by split <;> simp
  rw [Nat.succ_mul]
  simp only [List.length_append]
  omega

end Go.Proofs.Qxb6618659a
