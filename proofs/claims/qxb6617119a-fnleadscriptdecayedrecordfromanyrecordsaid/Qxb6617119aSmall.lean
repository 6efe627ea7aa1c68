/- The small functions of the road: sameFloat, the clones. -/
import Derived.Test.Qxb6617119aRows
import Derived.Test.Qxb6617119aMem
import Derived.WalkKit
import Derived.WalkSpells
import Derived.WalkLawsBesides
import Derived.Lib.SliceRun
import Derived.Deep.QuietTactic
import Derived.BigQuiet
import Derived.Deep.LoopGhost
namespace Go.Proofs.Qxb6617119a
open Go.RowKit

theorem Try.info3 : (Try.prog.info? 3).map (fun i => (i.zero, i.size, i.bytes)) = some (some (.int .i64 0), 1, 8) := by kernel_rfl
theorem Try.info5 : (Try.prog.info? 5).map (fun i => (i.zero, i.size, i.bytes)) = some (some (.int .u8 0), 1, 1) := by kernel_rfl
theorem Try.info4 : (Try.prog.info? 4).map (fun i => (i.zero, i.size, i.bytes)) = some (some (.bool false), 1, 1) := by kernel_rfl
theorem Try.info22 : (Try.prog.info? 22).map (fun i => (i.zero, i.size, i.bytes)) = some (some (.float .f64 0), 1, 8) := by kernel_rfl

/-- sameFloat of a float and itself: true (a NaN too). -/
theorem same_any (x : Nat) (w : World) : Calls Try.prog 17 #[.float .f64 x, .float .f64 x] w fun e w' => e = .returned (.bool true) ∧ w' = w := by
  by_cases h : (FloatKind.f64.format.order x x == some Ordering.eq) = true
  · go_enter Try.func17, Try.ntmps17
    go_wp2
    go_ret
    exact ⟨rfl, rfl⟩
  · have h' : (FloatKind.f64.format.order x x == some Ordering.eq) = false := by simpa using h
    have h2 : (FloatKind.f64.format.order x x != some Ordering.eq) = true := by simp [bne, h']
    clear h
    go_enter Try.func17, Try.ntmps17
    go_wp2
    go_ret
    exact ⟨rfl, rfl⟩

/-- 'make([]T, n)' at a program whose table has T at one cell: the run. -/
theorem make_run {P : Program} {t e : TypeId} {z : Value} {bytes : Nat} (ht : P.underlying t = some (.slice e)) (hi : (P.info? e).map (fun i => (i.zero, i.size, i.bytes)) = some (some z, 1, bytes))
    (hz : z.cells = #[z]) (n : Nat) (hn : n ≤ 1099511627776) (hb : bytes ≤ 8) (w : World) :
    (Instr.makeSlice t (.int .i64 (n : Int)) (.int .i64 (n : Int))).run P w = .ok (.slice (some ⟨w.heap.size, 0, none⟩) n n) (w.alloc (.cells (madeCells #[z] n) e)) := by
  obtain ⟨i, h1, h2, h3, h4⟩ := info_parts hi
  have hbn : bytes * n ≤ 8 * n := Nat.mul_le_mul_right n hb
  have hbz : ((bytes : Int) * (n : Int)) ≤ 281474976710656 := by
    have : ((bytes * n : Nat) : Int) ≤ 281474976710656 := by omega
    rwa [Int.natCast_mul] at this
  have h := run_make (P := P) w t e i z ht h1 h2 .i64 .i64 (n : Int) (n : Int) (by omega) (Int.le_refl _) (by rw [h4]; exact hbz) (by omega)
  rw [h3, hz] at h
  simpa using h

/-- What a slice that is only read shows: its cells, where it has any. -/
def Sl (w : World) (o : Option Addr) (n : Nat) (f : Nat → Value) : Prop :=
  0 < n → ∃ b off, o = some ⟨b, off, none⟩ ∧ ∀ i, i < n → w.cell? ⟨b, off + i, none⟩ = some (f i)

/-- What a slice that the call made shows: a row of its own, where it has cells at all. -/
def Own (B : Nat) (w : World) (o : Option Addr) (T : TypeId) (n : Nat) (f : Nat → Value) : Prop :=
  0 < n → ∃ g, B ≤ g ∧ o = some ⟨g, 0, none⟩ ∧ Row w g T n f

theorem Own.sl {B : Nat} {w : World} {o : Option Addr} {T : TypeId} {n : Nat} {f : Nat → Value} (h : Own B w o T n f) : Sl w o n f := by
  intro hn
  obtain ⟨g, _, rfl, hr⟩ := h hn
  exact ⟨g, 0, rfl, fun i hi => by rw [Nat.zero_add]; exact hr.cell hi⟩

theorem Sl.below {w w' : World} {o : Option Addr} {n : Nat} {f : Nat → Value} (h : Sl w o n f) (hb : Below w.heap.size w w') : Sl w' o n f := by
  intro hn
  obtain ⟨b, off, rfl, hc⟩ := h hn
  refine ⟨b, off, rfl, fun i hi => ?_⟩
  rw [hb.cell (p := ⟨b, off + i, none⟩) (World.block_lt_of_cell? w ⟨b, off + i, none⟩ (hc i hi))]
  exact hc i hi

theorem Own.below {B : Nat} {w w' : World} {o : Option Addr} {T : TypeId} {n : Nat} {f : Nat → Value} (h : Own B w o T n f) (hb : Below w.heap.size w w') : Own B w' o T n f := by
  intro hn
  obtain ⟨g, hg, rfl, hr⟩ := h hn
  exact ⟨g, hg, rfl, hr.below hb hr.lt⟩

theorem splice_whole {α : Type} (A B : List α) (h : A.length = B.length) : splice A 0 B = B := by
  simp [splice, h]

/-- 'c := make([]T, n); copy(c, s)': the copy's run. -/
theorem copy_run {P : Program} {t e : TypeId} {z : Value} {bytes : Nat} (ht : P.underlying t = some (.slice e)) (hi : (P.info? e).map (fun i => (i.zero, i.size, i.bytes)) = some (some z, 1, bytes))
    (a : Addr) (n c : Nat) (f : Nat → Value) (h1 : ∀ i, (f i).oneCell' = true) (w : World) (hs : Sl w (some a) n f) :
    ∃ w2, (Builtin.copy_ #[t, t] 3 #[.slice (some ⟨w.heap.size, 0, none⟩) n n, .slice (some a) n c]).run P (w.alloc (.cells (madeCells #[z] n) e)) = .ok (.int .i64 (n : Int)) w2 ∧
      Row w2 w.heap.size e n f ∧ Below w.heap.size w w2 ∧ w2.heap.size = w.heap.size + 1 := by
  have hi' : (P.info? e).map (·.size) = some 1 := by
    obtain ⟨i, h1, h2, h3, h4⟩ := info_parts hi
    simp [h1, h3]
  have hbel : Below w.heap.size w (w.alloc (.cells (madeCells #[z] n) e)) := (Below.refl _ _).alloc (Nat.le_refl _) _
  by_cases h0 : n = 0
  · subst h0
    refine ⟨_, run_copy_none (P := P) _ t t 3 e _ _ 0 0 0 c ht hi' (by simp), ?_, hbel, by simp⟩
    exact (Row.made w z e 0).congr (fun k hk => absurd hk (by omega))
  · obtain ⟨b, off, ha, hc⟩ := hs (by omega)
    obtain rfl := Option.some.inj ha
    have hg : (w.alloc (.cells (madeCells #[z] n) e)).heap[w.heap.size]? = some (.cells (madeCells #[z] n) e (0, 0)) := heap_alloc_new w _
    have hrun := run_copy_row (P := P) (w.alloc (.cells (madeCells #[z] n) e)) t t 3 e w.heap.size 0 n n ⟨b, off, none⟩ n c (madeCells #[z] n) e ((List.range n).map f) ht hi' hg (by simp)
      (fun j v hv => by
        have hj : j < n := by have := (List.getElem?_eq_some_iff.1 hv).1; simpa using this
        have hv' : f j = v := by simpa [hj] using hv
        rw [Addr.add_lit, hbel.cell (p := ⟨b, off + j, none⟩) (World.block_lt_of_cell? w _ (hc j hj)), hc j hj, hv'])
      (by simp [size_madeCells]) (fun v hv => by obtain ⟨k, _, rfl⟩ := List.mem_map.1 hv; exact h1 k)
    have hl : (madeCells #[z] n).size = n := size_madeCells _ _
    have ec : (List.take 0 (madeCells #[z] n).toList ++ List.map f (List.range n) ++ List.drop (0 + (List.map f (List.range n)).length) (madeCells #[z] n).toList).toArray = ((List.range n).map f).toArray := by
      simp [hl]
    rw [ec] at hrun
    have eg : goInt ((List.map f (List.range n)).length : Int) = .int .i64 (n : Int) := by simp [goInt]
    rw [eg] at hrun
    exact ⟨_, hrun, setRow_heap _ w.heap.size _ _ e (0, 0) hg, below_setRow hbel (Nat.le_refl _) _, by simp⟩

theorem cloneInts_any (o : Option Addr) (n c : Nat) (f : Nat → Int) (w : World) (hnil : o = none → n = 0 ∧ c = 0) (hn : n ≤ 1048576) (hs : Sl w o n (fun i => .int .i64 (f i))) :
    Calls Try.prog 9 #[.slice o n c] w fun e w' => ∃ o' c', e = .returned (.slice o' n c') ∧ (o' = none → n = 0 ∧ c' = 0) ∧ Own w.heap.size w' o' 3 n (fun i => .int .i64 (f i)) ∧ Below w.heap.size w w' := by
  have q28 : ∀ (w : World) (a : Option Addr) (n c n' c' : Nat), (binOp .eql 28 (.slice a n c) (.slice none n' c')).run Try.prog w = .ok (.bool a.isNone) w := fun w a n c n' c' => Lib.run_eql_slice_nil w _ _ a n c n' c' Try.underlying28
  cases o with
  | none =>
    obtain ⟨rfl, rfl⟩ := hnil rfl
    go_enter Try.func9, Try.ntmps9
    go_wp2
    go_ret
    exact ⟨_, _, rfl, (by simp), fun h => absurd h (by omega), Below.refl _ _⟩
  | some a =>
    have hmk := make_run (P := Try.prog) Try.underlying28 Try.info3 rfl n (by omega) (by omega)
    obtain ⟨w2, hcp, hrow, hbel, hsz⟩ := copy_run (P := Try.prog) Try.underlying28 Try.info3 a n c (fun i => .int .i64 (f i)) (fun _ => rfl) w hs
    go_enter Try.func9, Try.ntmps9
    go_wp2
    go_ret
    exact ⟨_, _, rfl, (fun h => by cases h), fun _ => ⟨_, Nat.le_refl _, rfl, hrow⟩, hbel⟩

theorem cloneBools_any (o : Option Addr) (n c : Nat) (f : Nat → Bool) (w : World) (hnil : o = none → n = 0 ∧ c = 0) (hn : n ≤ 1048576) (hs : Sl w o n (fun i => .bool (f i))) :
    Calls Try.prog 10 #[.slice o n c] w fun e w' => ∃ o' c', e = .returned (.slice o' n c') ∧ (o' = none → n = 0 ∧ c' = 0) ∧ Own w.heap.size w' o' 4 n (fun i => .bool (f i)) ∧ Below w.heap.size w w' := by
  have q28 : ∀ (w : World) (a : Option Addr) (n c n' c' : Nat), (binOp .eql 29 (.slice a n c) (.slice none n' c')).run Try.prog w = .ok (.bool a.isNone) w := fun w a n c n' c' => Lib.run_eql_slice_nil w _ _ a n c n' c' Try.underlying29
  cases o with
  | none =>
    obtain ⟨rfl, rfl⟩ := hnil rfl
    go_enter Try.func10, Try.ntmps10
    go_wp2
    go_ret
    exact ⟨_, _, rfl, (by simp), fun h => absurd h (by omega), Below.refl _ _⟩
  | some a =>
    have hmk := make_run (P := Try.prog) Try.underlying29 Try.info4 rfl n (by omega) (by omega)
    obtain ⟨w2, hcp, hrow, hbel, hsz⟩ := copy_run (P := Try.prog) Try.underlying29 Try.info4 a n c (fun i => .bool (f i)) (fun _ => rfl) w hs
    go_enter Try.func10, Try.ntmps10
    go_wp2
    go_ret
    exact ⟨_, _, rfl, (fun h => by cases h), fun _ => ⟨_, Nat.le_refl _, rfl, hrow⟩, hbel⟩

theorem cloneFloats_any (o : Option Addr) (n c : Nat) (f : Nat → Nat) (w : World) (hnil : o = none → n = 0 ∧ c = 0) (hn : n ≤ 1048576) (hs : Sl w o n (fun i => .float .f64 (f i))) :
    Calls Try.prog 15 #[.slice o n c] w fun e w' => ∃ o' c', e = .returned (.slice o' n c') ∧ (o' = none → n = 0 ∧ c' = 0) ∧ Own w.heap.size w' o' 22 n (fun i => .float .f64 (f i)) ∧ Below w.heap.size w w' := by
  have q28 : ∀ (w : World) (a : Option Addr) (n c n' c' : Nat), (binOp .eql 25 (.slice a n c) (.slice none n' c')).run Try.prog w = .ok (.bool a.isNone) w := fun w a n c n' c' => Lib.run_eql_slice_nil w _ _ a n c n' c' Try.underlying25
  cases o with
  | none =>
    obtain ⟨rfl, rfl⟩ := hnil rfl
    go_enter Try.func15, Try.ntmps15
    go_wp2
    go_ret
    exact ⟨_, _, rfl, (by simp), fun h => absurd h (by omega), Below.refl _ _⟩
  | some a =>
    have hmk := make_run (P := Try.prog) Try.underlying25 Try.info22 rfl n (by omega) (by omega)
    obtain ⟨w2, hcp, hrow, hbel, hsz⟩ := copy_run (P := Try.prog) Try.underlying25 Try.info22 a n c (fun i => .float .f64 (f i)) (fun _ => rfl) w hs
    go_enter Try.func15, Try.ntmps15
    go_wp2
    go_ret
    exact ⟨_, _, rfl, (fun h => by cases h), fun _ => ⟨_, Nat.le_refl _, rfl, hrow⟩, hbel⟩

end Go.Proofs.Qxb6617119a
