/- typeText, (*Struct).String, ZZstructOf. -/
import Derived.Test.Qxb6618659aNode
namespace Go.Proofs.Qxb6618659a
open Go.RowKit
set_option linter.unusedVariables false

theorem TB.start (W : World) : TB W [] 16 ((W.alloc (.cells #[.pointer none, .slice none 0 0] 49)).alloc (.cells #[.int .i64 16] 3)) := by
  refine ⟨Or.inl ⟨Nat.le_refl _, .slice none 0 0, heap_alloc2_old W _ _, World.ownsRow_nil _ _ _ _, by simp [Value.ownBlock]⟩, heap_alloc2_new W _ _, ((Below.refl _ _).alloc (Nat.le_refl _) _).alloc (by simp) _⟩

set_option maxHeartbeats 1000000 in
theorem text_any (W : World) (p cap : Nat) (F : Nat → List UInt8 × Nat) (hc : cap ≤ 70368744177664) (hw : Writes W p 0 cap F) :
    Calls Try.prog 12 #[.iface 26 (.pointer (some ⟨p, 0, none⟩))] W fun e w' => e = .returned (.string ⟨(F 16).1.toArray⟩) ∧ Below W.heap.size W w' := by
  go_enter Try.func12, Try.ntmps12
  go_wp2_with fail
  have hT := TB.start W
  refine (hw _ [] 16 (by omega) (by omega) (by simpa using hc) hT).mono ?_
  rintro e w1 ⟨rfl, hT1⟩
  go_wp2_with fail
  refine (string_any _ _ _ hT1.bd).mono ?_
  rintro e w2 ⟨rfl, hb⟩
  go_wp2_with fail
  go_ret
  exact ⟨rfl, hT1.bel.trans hb⟩

set_option maxHeartbeats 1000000 in
theorem str_leaf (W : World) (p : Nat) (s : ByteArray) (h0 : W.cell? ⟨p, 0, none⟩ = some (.string s)) (h2 : W.cell? ⟨p, 2, none⟩ = some (.slice none 0 0)) :
    Calls Try.prog 8 #[.pointer (some ⟨p, 0, none⟩)] W fun e w' => e = .returned (.string s) ∧ Below W.heap.size W w' := by
  go_enter Try.func8, Try.ntmps8
  go_wp2_with fail
  go_ret
  exact ⟨rfl, Below.refl _ _⟩

set_option maxHeartbeats 1000000 in
theorem str_node (W : World) (p g m cap : Nat) (F : Nat → List UInt8 × Nat) (hm : 1 ≤ m) (hm2 : m ≤ 4096) (h2 : W.cell? ⟨p, 2, none⟩ = some (.slice (some ⟨g, 0, none⟩) m m)) (hc : cap ≤ 70368744177664) (hw : Writes W p 0 cap F) :
    Calls Try.prog 8 #[.pointer (some ⟨p, 0, none⟩)] W fun e w' => e = .returned (.string ⟨(F 16).1.toArray⟩) ∧ Below W.heap.size W w' := by
  have hm' : ¬ (m : Int) = 0 := by omega
  go_enter Try.func8, Try.ntmps8
  go_wp2_with (go_at_call 12; refine (text_any W p cap F hc hw).mono ?_; rintro e w1 ⟨rfl, hb⟩)
  go_ret
  exact ⟨rfl, hb⟩

/-- The cells of a struct that has just been made. -/
def stCells (s : ByteArray) (a : Value) : Array Value := #[.string s, .slice none 0 0, a, .slice none 0 0, .slice none 0 0, .map none, .map none, .map none, .map none, .pointer none, .pointer none, .pointer none]

set_option maxHeartbeats 1000000 in
theorem mk_leaf (w : World) (s : ByteArray) (o : Option Addr) (c : Nat) :
    Calls Try.prog 7 #[.string s, .slice o 0 c] w fun e w' => e = .returned (.pointer (some ⟨w.heap.size, 0, none⟩)) ∧ w'.cell? ⟨w.heap.size, 0, none⟩ = some (.string s) ∧ w'.cell? ⟨w.heap.size, 2, none⟩ = some (.slice none 0 0) ∧ Below w.heap.size w w' := by
  have hb : Below w.heap.size w (w.alloc (.cells (stCells s (.slice none 0 0)) 42)) := (Below.refl _ _).alloc (Nat.le_refl _) _
  have c0 : (w.alloc (.cells (stCells s (.slice none 0 0)) 42)).cell? ⟨w.heap.size, 0, none⟩ = some (.string s) := by
    rw [cell_of_row _ _ 0 _ _ _ (heap_alloc_new w _)]; rfl
  have c2 : (w.alloc (.cells (stCells s (.slice none 0 0)) 42)).cell? ⟨w.heap.size, 2, none⟩ = some (.slice none 0 0) := by
    rw [cell_of_row _ _ 2 _ _ _ (heap_alloc_new w _)]; rfl
  have HB : Hid _ := hb
  have C0 : Hid _ := c0
  have C2 : Hid _ := c2
  clear hb c0 c2
  go_enter Try.func7, Try.ntmps7
  go_wp2_with fail
  go_ret
  exact ⟨rfl, C0.out, C2.out, HB.out⟩

theorem Try.info44 : (Try.prog.info? 44).map (fun i => (i.zero, i.size, i.bytes)) = some (some .nilIface, 1, 16) := by kernel_rfl
theorem Try.info26 : (Try.prog.info? 26).map (fun i => (i.zero, i.size, i.bytes)) = some (some (.pointer none), 1, 8) := by kernel_rfl

theorem make_run {P : Program} {t e : TypeId} {z : Value} {bytes : Nat} (ht : P.underlying t = some (.slice e)) (hi : (P.info? e).map (fun i => (i.zero, i.size, i.bytes)) = some (some z, 1, bytes))
    (hz : z.cells = #[z]) (n : Nat) (hn : n ≤ 1099511627776) (hb : bytes ≤ 16) (w : World) :
    (Instr.makeSlice t (.int .i64 (n : Int)) (.int .i64 (n : Int))).run P w = .ok (.slice (some ⟨w.heap.size, 0, none⟩) n n) (w.alloc (.cells (madeCells #[z] n) e)) := by
  obtain ⟨i, h1, h2, h3, h4⟩ := info_parts hi
  have hbn : bytes * n ≤ 16 * n := Nat.mul_le_mul_right n hb
  have hbz : ((bytes : Int) * (n : Int)) ≤ 281474976710656 := by
    have : ((bytes * n : Nat) : Int) ≤ 281474976710656 := by omega
    rwa [Int.natCast_mul] at this
  have h := run_make (P := P) w t e i z ht h1 h2 .i64 .i64 (n : Int) (n : Int) (by omega) (Int.le_refl _) (by rw [h4]; exact hbz) (by omega)
  rw [h3, hz] at h
  simpa using h

/-- Block g is a row of n cells of type T, none frozen; cell k holds f k. -/
def Row (w : World) (g : Nat) (T : TypeId) (n : Nat) (f : Nat → Value) : Prop :=
  w.heap[g]? = some (.cells ((List.range n).map f).toArray T (0, 0))
def upd {α : Type} (f : Nat → α) (i : Nat) (v : α) : Nat → α := fun k => if k = i then v else f k

theorem Row.lt {w : World} {g : Nat} {T : TypeId} {n : Nat} {f : Nat → Value} (h : Row w g T n f) : g < w.heap.size := lt_of_block h
theorem Row.cell {w : World} {g : Nat} {T : TypeId} {n : Nat} {f : Nat → Value} (h : Row w g T n f) {k : Nat} (hk : k < n) : w.cell? ⟨g, k, none⟩ = some (f k) := by
  rw [cell_of_row w g k _ T (0, 0) h]
  simp [hk]
theorem Row.free {w : World} {g : Nat} {T : TypeId} {n : Nat} {f : Nat → Value} (h : Row w g T n f) (k : Nat) : w.frozen? ⟨g, k, none⟩ = false := frozen_of_row w g k _ T h
theorem Row.congr {w : World} {g : Nat} {T : TypeId} {n : Nat} {f f' : Nat → Value} (h : Row w g T n f) (e : ∀ k, k < n → f k = f' k) : Row w g T n f' := by
  unfold Row at *
  rw [h]
  congr 3
  exact List.map_congr_left (fun k hk => e k (by simpa using hk))
theorem Row.set {w : World} {g : Nat} {T : TypeId} {n : Nat} {f : Nat → Value} (h : Row w g T n f) (i : Nat) (v : Value) : Row (w.setCell ⟨g, i, none⟩ v) g T n (upd f i v) := by
  unfold Row at *
  rw [heap_setCell_same w g i _ T v h]
  congr 2
  apply Array.ext
  · simp
  · intro k h1 h2
    simp [upd]
    by_cases e : i = k
    · simp [e]
    · simp [e, Ne.symm e]
theorem Row.below {B : Nat} {w w' : World} {g : Nat} {T : TypeId} {n : Nat} {f : Nat → Value} (h : Row w g T n f) (hb : Below B w w') (hg : g < B) : Row w' g T n f := by
  unfold Row at *
  rw [hb.block g hg]; exact h
theorem Row.other {w : World} {g : Nat} {T : TypeId} {n : Nat} {f : Nat → Value} (h : Row w g T n f) (a : Addr) (v : Value) (hne : g ≠ a.block) : Row (w.setCell a v) g T n f := by
  unfold Row at *
  rw [heap_setCell_other w a g v hne]; exact h
theorem madeCells_one (v : Value) (n : Nat) : madeCells #[v] n = ((List.range n).map (fun _ => v)).toArray := by
  apply Array.ext
  · simp [madeCells]
  · intro i h1 h2
    simp [madeCells, Nat.mod_one]
theorem Row.made (w : World) (v : Value) (T : TypeId) (n : Nat) : Row (w.alloc (.cells (madeCells #[v] n) T)) w.heap.size T n (fun _ => v) := by
  unfold Row
  rw [heap_alloc_new, madeCells_one]
theorem Row.made2 (w : World) (o : Obj) (v : Value) (T : TypeId) (n : Nat) : Row ((w.alloc o).alloc (.cells (madeCells #[v] n) T)) (w.heap.size + 1) T n (fun _ => v) := by
  have h := Row.made (w.alloc o) v T n
  simpa using h

/-- What a slice of pointers to structs shows, where it has cells. -/
def Ptrs (w : World) (o : Option Addr) (m : Nat) (q : Nat → Nat) : Prop :=
  0 < m → ∃ b off, o = some ⟨b, off, none⟩ ∧ ∀ i, i < m → w.cell? ⟨b, off + i, none⟩ = some (.pointer (some ⟨q i, 0, none⟩))

/-- The loop that lays the arguments: i of them laid. -/
structure KA (w : World) (s : ByteArray) (m : Nat) (q : Nat → Nat) (i : Nat) (wr : World) : Prop where
  bel : Below w.heap.size w wr
  box : wr.heap[w.heap.size]? = some (.cells (stCells s (.slice none 0 0)) 42 (0, 0))
  row : Row wr (w.heap.size + 1) 44 m (fun k => if k < i then .iface 26 (.pointer (some ⟨q k, 0, none⟩)) else .nilIface)

theorem KA.start (w : World) (s : ByteArray) (m : Nat) (q : Nat → Nat) : KA w s m q 0 ((w.alloc (.cells (stCells s (.slice none 0 0)) 42)).alloc (.cells (madeCells #[.nilIface] m) 44)) :=
  ⟨((Below.refl _ _).alloc (Nat.le_refl _) _).alloc (by simp) _, heap_alloc2_old w _ _, (Row.made2 w _ .nilIface 44 m).congr (fun k _ => by simp)⟩

theorem KA.step {w : World} {s : ByteArray} {m : Nat} {q : Nat → Nat} {i : Nat} {wr : World} (h : KA w s m q i wr) : KA w s m q (i + 1) (wr.setCell ⟨w.heap.size + 1, i, none⟩ (.iface 26 (.pointer (some ⟨q i, 0, none⟩)))) := by
  refine ⟨h.bel.setCell (by simp) _, by rw [Below.heap_setCell _ _ _ _ (by simp)]; exact h.box, (h.row.set i _).congr (fun k hk => ?_)⟩
  simp only [upd]
  by_cases e : k = i
  · subst e; simp
  · rw [if_neg e]
    by_cases e2 : k < i
    · rw [if_pos e2, if_pos (by omega)]
    · rw [if_neg e2, if_neg (by omega)]

set_option maxHeartbeats 2000000 in
set_option maxRecDepth 100000 in
theorem mk_node (w : World) (s : ByteArray) (o : Option Addr) (m c : Nat) (q : Nat → Nat) (hm : 1 ≤ m) (hm2 : m ≤ 4096) (hp : Ptrs w o m q) :
    Calls Try.prog 7 #[.string s, .slice o m c] w fun e w' => e = .returned (.pointer (some ⟨w.heap.size, 0, none⟩)) ∧ w'.cell? ⟨w.heap.size, 0, none⟩ = some (.string s) ∧
      w'.cell? ⟨w.heap.size, 2, none⟩ = some (.slice (some ⟨w.heap.size + 1, 0, none⟩) m m) ∧ Args w' (w.heap.size + 1) m q ∧ Below w.heap.size w w' := by
  obtain ⟨b, off, rfl, hc⟩ := hp (by omega)
  have hmk := make_run (P := Try.prog) Try.underlying33 Try.info44 rfl m (by omega) (by omega)
  have hm' : (0 : Int) < (m : Int) := by omega
  have HS : Hid _ := KA.start w s m q
  go_enter Try.func7, Try.ntmps7
  go_wp2_with fail
  go_loopg [19] m (fun g t wr => ∃ i : Nat, i ≤ m ∧ g = m - i ∧ t = .int .i64 (i : Int) ∧ KA w s m q i wr)
  case atStart => exact ⟨0, by omega, by omega, rfl, HS.out⟩
  case round =>
    obtain ⟨i, hi, rfl, rfl, hK⟩ := hrel
    by_cases hlt : i < m
    · have hbl : b < w.heap.size := World.block_lt_of_cell? w ⟨b, off + i, none⟩ (hc i hlt)
      have e1 : wr.cell? ⟨b, off + i, none⟩ = some (.pointer (some ⟨q i, 0, none⟩)) := (hK.bel.cell (p := ⟨b, off + i, none⟩) hbl).trans (hc i hlt)
      have e2 := hK.row.cell hlt
      have e3 := hK.row.free i
      simp only [Nat.lt_irrefl, if_false] at e2
      go_wp2_with fail
      go_roundg (m - (i + 1))
      case measure => omega
      case rel => exact ⟨i + 1, by omega, rfl, by go_num, hK.step⟩
    · obtain rfl : m = i := by omega
      have e0 : wr.cell? ⟨w.heap.size, 2, none⟩ = some (.slice none 0 0) := by rw [cell_of_row _ _ 2 _ _ _ hK.box]; rfl
      have f0 : wr.frozen? ⟨w.heap.size, 2, none⟩ = false := frozen_of_row _ _ 2 _ _ hK.box
      go_wp2_with fail
      go_ret
      refine ⟨rfl, ?_, ?_, fun j hj => ?_, hK.bel.setCell (Nat.le_refl _) _⟩
      · rw [cell_of_row _ _ 0 _ _ _ (heap_setCell_same wr w.heap.size 2 _ _ _ hK.box)]
        simp [stCells]
      · rw [cell_of_row _ _ 2 _ _ _ (heap_setCell_same wr w.heap.size 2 _ _ _ hK.box)]
        simp [stCells]
      · have r := (hK.row.other ⟨w.heap.size, 2, none⟩ (.slice (some ⟨w.heap.size + 1, 0, none⟩) m m) (by simp)).cell hj
        rw [if_pos hj] at r
        exact r

end Go.Proofs.Qxb6618659a
