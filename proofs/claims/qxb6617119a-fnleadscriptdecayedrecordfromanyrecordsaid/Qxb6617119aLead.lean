/- lead, ZZLead, ZZFields, ZZMakeTable. -/
import Derived.Test.Qxb6617119aSmall
namespace Go.Proofs.Qxb6617119a
open Go.RowKit
set_option linter.unusedVariables false

def stepL (l : Nat) : Nat := if l = 31 then 16 else l + 1
def stepW (l v : Nat) (b : Bool) : Nat := if l = 31 then (v + b.toNat) / 2 else v + b.toNat

/-- Nothing but the blocks g1 and g2 has turned. -/
structure But (g1 g2 : Nat) (w w' : World) : Prop where
  os : w'.os = w.os
  tape : w'.tape = w.tape
  output : w'.output = w.output
  size : w'.heap.size = w.heap.size
  block : ∀ k, k ≠ g1 → k ≠ g2 → w'.heap[k]? = w.heap[k]?

theorem But.refl (g1 g2 : Nat) (w : World) : But g1 g2 w w := ⟨rfl, rfl, rfl, rfl, fun _ _ _ => rfl⟩
theorem But.set {g1 g2 : Nat} {w w' : World} (h : But g1 g2 w w') (a : Addr) (v : Value) (ha : a.block = g1 ∨ a.block = g2) : But g1 g2 w (w'.setCell a v) :=
  ⟨h.os, h.tape, h.output, by simpa [World.setCell] using h.size, fun k h1 h2 => (heap_setCell_other w' a k v (by rcases ha with e | e <;> omega)).trans (h.block k h1 h2)⟩
theorem But.trans {g1 g2 : Nat} {a b c : World} (h : But g1 g2 a b) (k : But g1 g2 b c) : But g1 g2 a c :=
  ⟨k.os.trans h.os, k.tape.trans h.tape, k.output.trans h.output, k.size.trans h.size, fun i h1 h2 => (k.block i h1 h2).trans (h.block i h1 h2)⟩
theorem But.below {g1 g2 B : Nat} {w w' : World} (h : But g1 g2 w w') (h1 : B ≤ g1) (h2 : B ≤ g2) : Below B w w' :=
  ⟨h.os, h.tape, h.output, Nat.le_of_eq h.size.symm, fun k hk => h.block k (by omega) (by omega)⟩

/-- The table in memory, n of whose columns' cells are read as functions. -/
structure Tab (w : World) (tb gl gw n cl cw : Nat) (vh : Value) (L W : Nat → Nat) : Prop where
  box : w.heap[tb]? = some (.cells #[vh, .slice (some ⟨gl, 0, none⟩) n cl, .slice (some ⟨gw, 0, none⟩) n cw] 43 (0, 0))
  led : Row w gl 3 n (fun i => .int .i64 (L i))
  won : Row w gw 3 n (fun i => .int .i64 (W i))
  n1 : gl ≠ gw
  n2 : tb ≠ gl
  n3 : tb ≠ gw

theorem upd_upd {α : Type} (f : Nat → α) (i : Nat) (u v : α) : upd (upd f i u) i v = upd f i v := by
  funext k; simp only [upd]; split <;> rfl

theorem Tab.setL {w : World} {tb gl gw n cl cw : Nat} {vh : Value} {L W : Nat → Nat} (h : Tab w tb gl gw n cl cw vh L W) (i v : Nat) {x : Int} (hx : x = (v : Int)) : Tab (w.setCell ⟨gl, i, none⟩ (.int .i64 x)) tb gl gw n cl cw vh (upd L i v) W := by
  subst hx
  refine ⟨by rw [heap_setCell_other w ⟨gl, i, none⟩ tb _ h.n2]; exact h.box, ?_, h.won.other _ _ (Ne.symm h.n1), h.n1, h.n2, h.n3⟩
  rw [upd_comp (fun (m : Nat) => Value.int .i64 (m : Int)) L i v]
  exact h.led.set i _

theorem Tab.setW {w : World} {tb gl gw n cl cw : Nat} {vh : Value} {L W : Nat → Nat} (h : Tab w tb gl gw n cl cw vh L W) (i v : Nat) {x : Int} (hx : x = (v : Int)) : Tab (w.setCell ⟨gw, i, none⟩ (.int .i64 x)) tb gl gw n cl cw vh L (upd W i v) := by
  subst hx
  refine ⟨by rw [heap_setCell_other w ⟨gw, i, none⟩ tb _ h.n3]; exact h.box, h.led.other _ _ h.n1, ?_, h.n1, h.n2, h.n3⟩
  rw [upd_comp (fun (m : Nat) => Value.int .i64 (m : Int)) W i v]
  exact h.won.set i _

theorem upd_id (f : Nat → Nat) (i v : Nat) (h : v = f i) : upd f i v = f := by
  funext k; simp only [upd]; split <;> simp_all

theorem lead_any (w : World) (tb gl gw n cl cw i : Nat) (vh : Value) (L W : Nat → Nat) (b : Bool) (hi : i < n) (hn : n ≤ 1048576) (hL : L i ≤ 31) (hW : W i ≤ L i) (h : Tab w tb gl gw n cl cw vh L W) :
    Calls Try.prog 18 #[.pointer (some ⟨tb, 0, none⟩), .int .i64 i, .bool b] w fun e w' => e = .returned (.tuple #[]) ∧ Tab w' tb gl gw n cl cw vh (upd L i (stepL (L i))) (upd W i (stepW (L i) (W i) b)) ∧ But gl gw w w' := by
  have c1 : w.cell? ⟨tb, 1, none⟩ = some (.slice (some ⟨gl, 0, none⟩) n cl) := by rw [cell_of_row w tb 1 _ _ _ h.box]; rfl
  have c2 : w.cell? ⟨tb, 2, none⟩ = some (.slice (some ⟨gw, 0, none⟩) n cw) := by rw [cell_of_row w tb 2 _ _ _ h.box]; rfl
  have c3 := h.led.cell hi
  have c4 := h.won.cell hi
  have f3 := h.led.free i
  have f4 := h.won.free i
  have n1 := h.n1
  have n2 := h.n2
  have n3 := h.n3
  have n1' := Ne.symm n1
  have n2' := Ne.symm n2
  have n3' := Ne.symm n3
  have e1 : L i = 31 → stepL (L i) = 16 := fun e => by simp [stepL, e]
  have e2 : ¬ L i = 31 → stepL (L i) = L i + 1 := fun e => by simp [stepL, e]
  have e3 : L i = 31 → stepW (L i) (W i) b = (W i + b.toNat) / 2 := fun e => by simp [stepW, e]
  have e4 : ¬ L i = 31 → stepW (L i) (W i) b = W i + b.toNat := fun e => by simp [stepW, e]
  generalize stepL (L i) = sl at *
  generalize stepW (L i) (W i) b = sw at *
  by_cases h31 : L i = 31
  · have E1 : Hid (sl = 16) := e1 h31
    have E3 : Hid (sw = (W i + b.toNat) / 2) := e3 h31
    clear e1 e2 e3 e4
    cases b with
    | true =>
      go_enter Try.func18, Try.ntmps18
      go_wp2
      go_end0
      have E1 := E1.out
      have E3 := E3.out
      have t := (((h.setL i 32 (x := 32) rfl).setW i (W i + 1) (x := (W i : Int) + 1) (by omega)).setL i 16 (x := 16) rfl).setW i sw (x := ((W i : Int) + 1) / 2) (by simp at E3; omega)
      rw [upd_upd, upd_upd, ← E1] at t
      refine ⟨rfl, t, ((((But.refl _ _ _).set _ _ ?_).set _ _ ?_).set _ _ ?_).set _ _ ?_⟩ <;> simp
    | false =>
      go_enter Try.func18, Try.ntmps18
      go_wp2
      go_end0
      have E1 := E1.out
      have E3 := E3.out
      have t := ((h.setL i 32 (x := 32) rfl).setL i 16 (x := 16) rfl).setW i sw (x := (W i : Int) / 2) (by simp at E3; omega)
      rw [upd_upd, ← E1] at t
      refine ⟨rfl, t, (((But.refl _ _ _).set _ _ ?_).set _ _ ?_).set _ _ ?_⟩ <;> simp
  · have E1 : Hid (sl = L i + 1) := e2 h31
    have E3 : Hid (sw = W i + b.toNat) := e4 h31
    clear e1 e2 e3 e4
    have hlt : L i < 31 := by omega
    clear h31
    cases b with
    | true =>
      go_enter Try.func18, Try.ntmps18
      go_wp2
      go_end0
      have E1 := E1.out
      have E3 := E3.out
      have t := (h.setL i sl (x := (L i : Int) + 1) (by omega)).setW i sw (x := (W i : Int) + 1) (by simp at E3; omega)
      refine ⟨rfl, t, ((But.refl _ _ _).set _ _ ?_).set _ _ ?_⟩ <;> simp
    | false =>
      go_enter Try.func18, Try.ntmps18
      go_wp2
      go_end0
      have E1 := E1.out
      have E3 := E3.out
      have t := h.setL i sl (x := (L i : Int) + 1) (by omega)
      rw [upd_id W i sw (by simp at E3; omega)]
      refine ⟨rfl, t, (But.refl _ _ _).set _ _ ?_⟩
      simp

theorem zzlead_any (w : World) (tb gl gw n cl cw i : Nat) (vh : Value) (L W : Nat → Nat) (b : Bool) (hi : i < n) (hn : n ≤ 1048576) (hL : L i ≤ 31) (hW : W i ≤ L i) (h : Tab w tb gl gw n cl cw vh L W) :
    Calls Try.prog 12 #[.pointer (some ⟨tb, 0, none⟩), .int .i64 i, .bool b] w fun e w' => e = .returned (.tuple #[]) ∧ Tab w' tb gl gw n cl cw vh (upd L i (stepL (L i))) (upd W i (stepW (L i) (W i) b)) ∧ But gl gw w w' := by
  go_enter Try.func12, Try.ntmps12
  go_wp2_with (go_at_call 18; refine (lead_any w tb gl gw n cl cw i vh L W b hi hn hL hW h).mono ?_; rintro e w' ⟨rfl, ht, hb⟩)
  go_end0
  exact ⟨rfl, ht, hb⟩

theorem fields_any (w : World) (tb : Nat) (v0 v1 v2 : Value) (a0 a1 a2 : Option Addr) (n0 c0 n1 c1 n2 c2 : Nat) (h0 : v0 = .slice a0 n0 c0) (h1 : v1 = .slice a1 n1 c1) (h2 : v2 = .slice a2 n2 c2)
    (hb : w.heap[tb]? = some (.cells #[v0, v1, v2] 43 (0, 0))) :
    Calls Try.prog 13 #[.pointer (some ⟨tb, 0, none⟩)] w fun e w' => e = .returned (.tuple #[v0, v1, v2]) ∧ ∃ q, w' = w.drewN q := by
  subst h0 h1 h2
  have k0 : w.cell? ⟨tb, 0, none⟩ = some (.slice a0 n0 c0) := by rw [cell_of_row w tb 0 _ _ _ hb]; rfl
  have k1 : w.cell? ⟨tb, 1, none⟩ = some (.slice a1 n1 c1) := by rw [cell_of_row w tb 1 _ _ _ hb]; rfl
  have k2 : w.cell? ⟨tb, 2, none⟩ = some (.slice a2 n2 c2) := by rw [cell_of_row w tb 2 _ _ _ hb]; rfl
  clear hb
  go_enter Try.func13, Try.ntmps13
  go_wp2
  go_quiet (fail)
  go_wp2
  go_ret3
  exact ⟨rfl, _, rfl⟩

theorem table_any (w : World) (a0 a1 a2 : Option Addr) (n0 c0 n1 c1 n2 c2 : Nat) :
    Calls Try.prog 16 #[.slice a0 n0 c0, .slice a1 n1 c1, .slice a2 n2 c2] w fun e w' => e = .returned (.pointer (some ⟨w.heap.size, 0, none⟩)) ∧ w' = w.alloc (.cells #[.slice a0 n0 c0, .slice a1 n1 c1, .slice a2 n2 c2] 43) := by
  go_enter Try.func16, Try.ntmps16
  go_wp2
  go_ret
  exact ⟨rfl, rfl⟩

theorem bytes_any (w : World) (a0 a1 a2 a3 a4 : Option Addr) (n0 c0 n1 c1 n2 c2 n3 c3 n4 c4 : Nat) (h0 : n0 ≤ 9223372036854775807) (h1 : n1 ≤ 9223372036854775807) (h2 : n2 ≤ 9223372036854775807) (h3 : n3 ≤ 9223372036854775807) (h4 : n4 ≤ 9223372036854775807) :
    Calls Try.prog 14 #[.slice a0 n0 c0, .slice a1 n1 c1, .slice a2 n2 c2, .slice a3 n3 c3, .slice a4 n4 c4] w fun e w' => (∃ b, e = .returned (.bool b)) ∧ w' = w := by
  go_enter Try.func14, Try.ntmps14
  go_wp2
  all_goals
    go_ret
    exact ⟨⟨_, rfl⟩, rfl⟩

end Go.Proofs.Qxb6617119a
