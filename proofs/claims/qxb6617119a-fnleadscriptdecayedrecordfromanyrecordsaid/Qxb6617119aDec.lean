/- decayedRecord. -/
import Derived.Test.Qxb6617119aLead
import Derived.Test.Qxb6617119aMath
import Derived.Deep.Light
namespace Go.Proofs.Qxb6617119a
open Go.RowKit
set_option linter.unusedVariables false

def iv (x : Nat) : Value := .int .i64 (x : Int)
def bv (x : Nat) : Value := .int .u8 (x : Int)

/-- Loop 1: the calls of each member among the first k are counted. -/
structure K1 (w : World) (n : Nat) (ids : Nat → Nat) (k : Nat) (wr : World) : Prop where
  bel : Below w.heap.size w wr
  size : wr.heap.size = w.heap.size + 1
  cnt : Row wr w.heap.size 3 n (fun m => .int .i64 (Rec.cnt ids k m))

theorem K1.start (w : World) (n : Nat) (ids : Nat → Nat) : K1 w n ids 0 (w.alloc (.cells (madeCells #[.int .i64 0] n) 3)) :=
  ⟨(Below.refl _ _).alloc (Nat.le_refl _) _, by simp, Row.made w _ 3 n⟩

theorem cnt_put (ids : Nat → Nat) (k : Nat) : (fun m => Value.int .i64 (Rec.cnt ids (k + 1) m)) = upd (fun m => Value.int .i64 (Rec.cnt ids k m)) (ids k) (.int .i64 ((Rec.cnt ids k (ids k) : Int) + 1)) := by
  funext m
  simp only [upd, Rec.cnt]
  by_cases e : m = ids k
  · subst e; simp
  · rw [if_neg (Ne.symm e), if_neg e]; simp

theorem K1.step {w : World} {n : Nat} {ids : Nat → Nat} {k : Nat} {wr : World} (h : K1 w n ids k wr) : K1 w n ids (k + 1) (wr.setCell ⟨w.heap.size, ids k, none⟩ (.int .i64 ((Rec.cnt ids k (ids k) : Int) + 1))) := by
  refine ⟨h.bel.setCell (Nat.le_refl _) _, by simpa [World.setCell] using h.size, ?_⟩
  rw [cnt_put]
  exact h.cnt.set _ _

/-- The halvings of each member in all. -/
def hh (l0 ids : Nat → Nat) (T m : Nat) : Nat := Rec.H (l0 m) (Rec.cnt ids T m)

/-- Loop 2: the halvings and the places of the bits of the first m members. -/
structure K2 (w : World) (n : Nat) (l0 ids : Nat → Nat) (T : Nat) (m : Nat) (wr : World) : Prop where
  bel : Below w.heap.size w wr
  size : wr.heap.size = w.heap.size + 3
  cnt : Row wr w.heap.size 3 n (fun m => .int .i64 (Rec.cnt ids T m))
  hs : Row wr (w.heap.size + 1) 3 n (fun i => .int .i64 ((if i < m then hh l0 ids T i else 0 : Nat) : Int))
  off : Row wr (w.heap.size + 2) 3 (n + 1) (fun i => .int .i64 ((if i ≤ m then Rec.off (hh l0 ids T) i else 0 : Nat) : Int))

theorem K2.start {w : World} {n : Nat} {ids : Nat → Nat} {T : Nat} {wr : World} (l0 : Nat → Nat) (h : K1 w n ids T wr) :
    K2 w n l0 ids T 0 ((wr.alloc (.cells (madeCells #[.int .i64 0] n) 3)).alloc (.cells (madeCells #[.int .i64 0] (n + 1)) 3)) := by
  have hs := h.size
  have r1 := (Row.made wr (.int .i64 0) 3 n).old (.cells (madeCells #[.int .i64 0] (n + 1)) 3)
  have r2 := Row.made2 wr (.cells (madeCells #[.int .i64 0] n) 3) (.int .i64 0) 3 (n + 1)
  rw [hs] at r1 r2
  refine ⟨(h.bel.alloc (by omega) _).alloc (by simp; omega) _, by simp [hs], (h.cnt.old _).old _, r1.congr (fun k hk => by simp), r2.congr (fun k hk => ?_)⟩
  by_cases e : k ≤ 0
  · obtain rfl : k = 0 := by omega
    simp [Rec.off]
  · simp [e]

theorem K2.step {w : World} {n : Nat} {l0 ids : Nat → Nat} {T : Nat} {m : Nat} {wr : World} (h : K2 w n l0 ids T m wr) {x y : Int} (hx : x = (hh l0 ids T m : Int)) (hy : y = (Rec.off (hh l0 ids T) (m + 1) : Int)) :
    K2 w n l0 ids T (m + 1) ((wr.setCell ⟨w.heap.size + 1, m, none⟩ (.int .i64 x)).setCell ⟨w.heap.size + 2, m + 1, none⟩ (.int .i64 y)) := by
  subst hx hy
  refine ⟨(h.bel.setCell (by simp) _).setCell (by simp) _, by simpa [World.setCell] using h.size, (h.cnt.other _ _ (by simp)).other _ _ (by simp), ?_, ?_⟩
  · refine ((h.hs.set m _).other _ _ (by simp)).congr (fun k hk => ?_)
    simp only [upd]
    by_cases e : k = m
    · subst e; simp
    · rw [if_neg e]
      by_cases e2 : k < m
      · rw [if_pos e2, if_pos (by omega)]
      · rw [if_neg e2, if_neg (by omega)]
  · refine ((h.off.other _ _ (by simp)).set (m + 1) _).congr (fun k hk => ?_)
    simp only [upd]
    by_cases e : k = m + 1
    · subst e; simp
    · rw [if_neg e]
      by_cases e2 : k ≤ m
      · rw [if_pos e2, if_pos (by omega)]
      · rw [if_neg e2, if_neg (by omega)]

theorem hh_le (l0 ids : Nat → Nat) (T m : Nat) : hh l0 ids T m ≤ 1 + T := Nat.le_trans (Rec.H_le _ _) (by have := Rec.cnt_le ids m T; omega)

theorem off_bd (l0 ids : Nat → Nat) (T n m : Nat) (hn : n ≤ 65536) (hT : T ≤ 65536) (hm : m ≤ n) : Rec.off (hh l0 ids T) m ≤ 5000000000 := by
  have h1 := Rec.off_le (hh l0 ids T) (1 + T) (fun k => hh_le l0 ids T k) m
  have h2 : m * (1 + T + 24) ≤ 65536 * 65561 := Nat.mul_le_mul (by omega) (by omega)
  omega

/-- What stands from loop 3 on: the counts, the halvings, the places, the bits. -/
structure KB (w : World) (n : Nat) (l0 ids : Nat → Nat) (T sz : Nat) (f : Nat → Nat) (wr : World) : Prop where
  bel : Below w.heap.size w wr
  size : wr.heap.size = w.heap.size + sz
  cnt : Row wr w.heap.size 3 n (fun m => .int .i64 (Rec.cnt ids T m))
  hs : Row wr (w.heap.size + 1) 3 n (fun i => .int .i64 (hh l0 ids T i))
  off : Row wr (w.heap.size + 2) 3 (n + 1) (fun i => .int .i64 (Rec.off (hh l0 ids T) i))
  bits : Row wr (w.heap.size + 3) 5 (Rec.off (hh l0 ids T) n) (fun p => .int .u8 (f p))
  one : ∀ p, f p ≤ 1

theorem KB.start {w : World} {n : Nat} {l0 ids : Nat → Nat} {T : Nat} {wr : World} (h : K2 w n l0 ids T n wr) :
    KB w n l0 ids T 4 (fun _ => 0) (wr.alloc (.cells (madeCells #[.int .u8 0] (Rec.off (hh l0 ids T) n)) 5)) := by
  have hs := h.size
  have r1 := Row.made wr (.int .u8 0) 5 (Rec.off (hh l0 ids T) n)
  rw [hs] at r1
  refine ⟨h.bel.alloc (by omega) _, by simp [hs], h.cnt.old _, (h.hs.old _).congr (fun k hk => by simp [hk]), (h.off.old _).congr (fun k hk => by rw [if_pos (by omega)]), r1, fun _ => by omega⟩

theorem KB.setBit {w : World} {n : Nat} {l0 ids : Nat → Nat} {T sz : Nat} {f : Nat → Nat} {wr : World} (h : KB w n l0 ids T sz f wr) (p v : Nat) (hv : v ≤ 1) {x : Int} (hx : x = (v : Int)) :
    KB w n l0 ids T sz (upd f p v) (wr.setCell ⟨w.heap.size + 3, p, none⟩ (.int .u8 x)) := by
  subst hx
  refine ⟨h.bel.setCell (by simp) _, by simpa [World.setCell] using h.size, h.cnt.other _ _ (by simp), h.hs.other _ _ (by simp), h.off.other _ _ (by simp), ?_, fun q => ?_⟩
  · rw [upd_comp (fun (m : Nat) => Value.int .u8 (m : Int)) f p v]
    exact h.bits.set p _
  · simp only [upd]; split
    · exact hv
    · exact h.one q

theorem and_one_i64 (a : Nat) (ha : a < 9223372036854775808) : bits .and .i64 (a : Int) 1 = ((a % 2 : Nat) : Int) := by
  have h1 : (BitVec.ofInt 64 (a : Int)).toNat = a := by
    rw [BitVec.ofInt_natCast, BitVec.toNat_ofNat]; exact Nat.mod_eq_of_lt (by omega)
  have h2 : (BitVec.ofInt 64 (1 : Int)).toNat = 1 := by decide
  show IntKind.i64.wrap ((BitVec.ofInt 64 (a : Int) &&& BitVec.ofInt 64 (1 : Int)).toNat : Int) = _
  rw [BitVec.toNat_and, h1, h2, IntKind.wrap_i64, Nat.and_one_is_mod]
  omega

theorem bit_test (x b : Nat) (hx : x ≤ 31) : (bits .and .i64 ((x : Int) / 2 ^ b) 1 == 1) = decide (x / 2 ^ b % 2 = 1) := by
  have e : ((x : Int) / 2 ^ b) = ((x / 2 ^ b : Nat) : Int) := by simp
  have hlt : x / 2 ^ b ≤ x := Nat.div_le_self _ _
  rw [e, and_one_i64 _ (by omega), Bool.eq_iff_iff]
  simp only [beq_iff_eq, decide_eq_true_eq]
  omega

/-- The bits of the number at which each member begins, one more laid. -/
theorem bits_init {h w0 : Nat → Nat} {f : Nat → Nat} {n m b : Nat} (hb : b < 5) (h1 : ∀ p, f p ≤ 1)
    (hf : ∀ j, j < n → Rec.vl f (Rec.off h j) (h j + 24) = if j < m then w0 j else if j = m then w0 m % 2 ^ b else 0) (hm : m < n) (hbit : w0 m / 2 ^ b % 2 = 1) :
    ∀ j, j < n → Rec.vl (upd f (Rec.off h m + b) 1) (Rec.off h j) (h j + 24) = if j < m then w0 j else if j = m then w0 m % 2 ^ (b + 1) else 0 := by
  intro j hj
  show Rec.vl (Rec.put f (Rec.off h m + b) 1) _ _ = _
  have hfj := hf j hj
  by_cases e : j = m
  · subst e
    rw [if_neg (by omega), if_pos rfl] at hfj ⊢
    have h2 := Rec.vl_put (f := f) (a := Rec.off h j) (v := 1) (q := b) (n := h j + 24) (by omega)
    have h3 := Rec.vl_ge (f := f) (a := Rec.off h j) (q := b) (n := h j + 24) (by omega)
    have h4 : w0 j % 2 ^ b < 2 ^ b := Nat.mod_lt _ (Nat.two_pow_pos b)
    have h5 : f (Rec.off h j + b) = 0 := by
      rcases Nat.eq_zero_or_pos (f (Rec.off h j + b)) with hz | hz
      · exact hz
      · exfalso
        have : 1 * 2 ^ b ≤ f (Rec.off h j + b) * 2 ^ b := Nat.mul_le_mul_right _ hz
        omega
    rw [h5] at h2
    rw [Rec.mod_pow_succ, hbit]
    omega
  · rw [if_neg e] at hfj ⊢
    rw [Rec.vl_put_out, hfj]
    rcases Rec.off_apart h (Ne.symm e) with h2 | h2 <;> omega

theorem bits_init0 {h w0 : Nat → Nat} {f : Nat → Nat} {n m b : Nat}
    (hf : ∀ j, j < n → Rec.vl f (Rec.off h j) (h j + 24) = if j < m then w0 j else if j = m then w0 m % 2 ^ b else 0) (hbit : ¬ w0 m / 2 ^ b % 2 = 1) :
    ∀ j, j < n → Rec.vl f (Rec.off h j) (h j + 24) = if j < m then w0 j else if j = m then w0 m % 2 ^ (b + 1) else 0 := by
  intro j hj
  have h0 : w0 m / 2 ^ b % 2 = 0 := by omega
  rw [hf j hj, Rec.mod_pow_succ, h0]
  simp

theorem bits_init_next {h w0 : Nat → Nat} {f : Nat → Nat} {n m : Nat} (hw : w0 m ≤ 31)
    (hf : ∀ j, j < n → Rec.vl f (Rec.off h j) (h j + 24) = if j < m then w0 j else if j = m then w0 m % 2 ^ 5 else 0) :
    ∀ j, j < n → Rec.vl f (Rec.off h j) (h j + 24) = if j < m + 1 then w0 j else 0 := by
  intro j hj
  rw [hf j hj]
  by_cases e : j = m
  · subst e
    rw [if_neg (by omega), if_pos rfl, if_pos (by omega), Nat.mod_eq_of_lt (by omega)]
  · by_cases e2 : j < m
    · rw [if_pos e2, if_pos (by omega)]
    · rw [if_neg e2, if_neg e, if_neg (by omega)]

/-- Loop 5: the first t calls taken in. -/
structure K5 (w : World) (n : Nat) (l0 w0 ids : Nat → Nat) (wins : Nat → Bool) (T t : Nat) (f : Nat → Nat) (wr : World) : Prop where
  kb : KB w n l0 ids T 5 f wr
  seen : Row wr (w.heap.size + 4) 3 n (fun m => .int .i64 (Rec.cnt ids t m))
  val : ∀ m, m < n → Rec.vl f (Rec.off (hh l0 ids T) m) (hh l0 ids T m + 24) = Rec.Bv l0 w0 ids wins t m

theorem KB.alloc {w : World} {n : Nat} {l0 ids : Nat → Nat} {T sz : Nat} {f : Nat → Nat} {wr : World} (h : KB w n l0 ids T sz f wr) (o : Obj) : KB w n l0 ids T (sz + 1) f (wr.alloc o) :=
  ⟨h.bel.alloc (by have := h.size; omega) _, by have := h.size; simp; omega, h.cnt.old _, h.hs.old _, h.off.old _, h.bits.old _, h.one⟩

theorem KB.other {w : World} {n : Nat} {l0 ids : Nat → Nat} {T sz : Nat} {f : Nat → Nat} {wr : World} (h : KB w n l0 ids T sz f wr) (a : Addr) (v : Value) (ha : w.heap.size + 4 ≤ a.block) : KB w n l0 ids T sz f (wr.setCell a v) :=
  ⟨h.bel.setCell (by omega) _, by simpa [World.setCell] using h.size, h.cnt.other _ _ (by omega), h.hs.other _ _ (by omega), h.off.other _ _ (by omega), h.bits.other _ _ (by omega), h.one⟩

theorem K5.start {w : World} {n : Nat} {l0 w0 ids : Nat → Nat} {wins : Nat → Bool} {T : Nat} {f : Nat → Nat} {wr : World} (h : KB w n l0 ids T 4 f wr)
    (hf : ∀ j, j < n → Rec.vl f (Rec.off (hh l0 ids T) j) (hh l0 ids T j + 24) = if j < n then w0 j else 0) :
    K5 w n l0 w0 ids wins T 0 f (wr.alloc (.cells (madeCells #[.int .i64 0] n) 3)) := by
  have r := Row.made wr (.int .i64 0) 3 n
  rw [h.size] at r
  exact ⟨h.alloc _, r, fun m hm => by rw [hf m hm, if_pos hm]; rfl⟩

/-- The carry: bits fc, a one to be added at place q. -/
structure K6 (w : World) (n : Nat) (l0 w0 ids : Nat → Nat) (wins : Nat → Bool) (T t : Nat) (f : Nat → Nat) (q : Nat) (fc : Nat → Nat) (wr : World) : Prop where
  kb : KB w n l0 ids T 5 fc wr
  seen : Row wr (w.heap.size + 4) 3 n (fun m => .int .i64 (Rec.cnt ids (t + 1) m))
  out : ∀ p, (p < Rec.off (hh l0 ids T) (ids t) ∨ Rec.off (hh l0 ids T) (ids t) + (hh l0 ids T (ids t) + 24) ≤ p) → fc p = f p
  val : Rec.vl fc (Rec.off (hh l0 ids T) (ids t)) (hh l0 ids T (ids t) + 24) + 2 ^ q = Rec.Bv l0 w0 ids wins t (ids t) + 2 ^ Rec.H (l0 (ids t)) (Rec.cnt ids t (ids t))
  le : q ≤ hh l0 ids T (ids t) + 24

theorem K5.seenRow {w : World} {n : Nat} {l0 w0 ids : Nat → Nat} {wins : Nat → Bool} {T t : Nat} {f : Nat → Nat} {wr : World} (h : K5 w n l0 w0 ids wins T t f wr) :
    KB w n l0 ids T 5 f (wr.setCell ⟨w.heap.size + 4, ids t, none⟩ (.int .i64 ((Rec.cnt ids t (ids t) : Int) + 1))) ∧
    Row (wr.setCell ⟨w.heap.size + 4, ids t, none⟩ (.int .i64 ((Rec.cnt ids t (ids t) : Int) + 1))) (w.heap.size + 4) 3 n (fun m => .int .i64 (Rec.cnt ids (t + 1) m)) := by
  refine ⟨h.kb.other _ _ (by simp), ?_⟩
  rw [cnt_put]
  exact h.seen.set _ _

theorem K5.skip {w : World} {n : Nat} {l0 w0 ids : Nat → Nat} {wins : Nat → Bool} {T t : Nat} {f : Nat → Nat} {wr : World} (h : K5 w n l0 w0 ids wins T t f wr) (hw : wins t = false) :
    K5 w n l0 w0 ids wins T (t + 1) f (wr.setCell ⟨w.heap.size + 4, ids t, none⟩ (.int .i64 ((Rec.cnt ids t (ids t) : Int) + 1))) :=
  ⟨h.seenRow.1, h.seenRow.2, fun m hm => by rw [h.val m hm, Rec.bits_skip _ _ _ _ _ _ hw]⟩

theorem K6.start {w : World} {n : Nat} {l0 w0 ids : Nat → Nat} {wins : Nat → Bool} {T t : Nat} {f : Nat → Nat} {wr : World} (h : K5 w n l0 w0 ids wins T t f wr) (ht : t < T) (hi : ids t < n) :
    K6 w n l0 w0 ids wins T t f (Rec.H (l0 (ids t)) (Rec.cnt ids t (ids t))) f (wr.setCell ⟨w.heap.size + 4, ids t, none⟩ (.int .i64 ((Rec.cnt ids t (ids t) : Int) + 1))) :=
  ⟨h.seenRow.1, h.seenRow.2, fun _ _ => rfl, by rw [h.val _ hi], by
    have : Rec.H (l0 (ids t)) (Rec.cnt ids t (ids t)) ≤ hh l0 ids T (ids t) := Rec.H_mono _ (Rec.cnt_mono ids _ (by omega))
    omega⟩

theorem K6.lt {w : World} {n : Nat} {l0 w0 ids : Nat → Nat} {wins : Nat → Bool} {T t : Nat} {f : Nat → Nat} {q : Nat} {fc : Nat → Nat} {wr : World} (h : K6 w n l0 w0 ids wins T t f q fc wr)
    (ht : t < T) (hw : wins t = true) (hl : l0 (ids t) ≤ 31) (hw0 : w0 (ids t) ≤ l0 (ids t)) : q < hh l0 ids T (ids t) + 24 := by
  rcases Nat.lt_or_ge q (hh l0 ids T (ids t) + 24) with h1 | h1
  · exact h1
  · exfalso
    have e : q = hh l0 ids T (ids t) + 24 := Nat.le_antisymm h.le h1
    have hb := Rec.Bv_lt l0 w0 ids wins (ids t) hl hw0 (show t + 1 ≤ T by omega)
    have eB : Rec.Bv l0 w0 ids wins (t + 1) (ids t) = Rec.Bv l0 w0 ids wins t (ids t) + 2 ^ Rec.H (l0 (ids t)) (Rec.cnt ids t (ids t)) := by simp [Rec.Bv, hw]
    have hv := h.val
    rw [eB, ← hv, e] at hb
    unfold hh at hb
    omega

theorem K6.step {w : World} {n : Nat} {l0 w0 ids : Nat → Nat} {wins : Nat → Bool} {T t : Nat} {f : Nat → Nat} {q : Nat} {fc : Nat → Nat} {wr : World} (h : K6 w n l0 w0 ids wins T t f q fc wr)
    (hq : q < hh l0 ids T (ids t) + 24) (h1 : fc (Rec.off (hh l0 ids T) (ids t) + q) = 1) :
    K6 w n l0 w0 ids wins T t f (q + 1) (upd fc (Rec.off (hh l0 ids T) (ids t) + q) 0) (wr.setCell ⟨w.heap.size + 3, Rec.off (hh l0 ids T) (ids t) + q, none⟩ (.int .u8 0)) := by
  refine ⟨h.kb.setBit _ 0 (by omega) rfl, h.seen.other _ _ (by simp), fun p hp => ?_, ?_, by omega⟩
  · rw [upd_other _ _ _ (by omega)]; exact h.out p hp
  · have hv := h.val
    have h2 := Rec.vl_put (f := fc) (a := Rec.off (hh l0 ids T) (ids t)) (v := 0) (q := q) (n := hh l0 ids T (ids t) + 24) hq
    rw [h1] at h2
    have h3 : 2 ^ (q + 1) = 2 ^ q + 2 ^ q := by rw [Nat.pow_succ]; omega
    show Rec.vl (Rec.put fc _ 0) _ _ + _ = _
    omega

theorem K6.done {w : World} {n : Nat} {l0 w0 ids : Nat → Nat} {wins : Nat → Bool} {T t : Nat} {f : Nat → Nat} {q : Nat} {fc : Nat → Nat} {wr : World} (h : K6 w n l0 w0 ids wins T t f q fc wr)
    (hv5 : ∀ m, m < n → Rec.vl f (Rec.off (hh l0 ids T) m) (hh l0 ids T m + 24) = Rec.Bv l0 w0 ids wins t m) (hw : wins t = true)
    (hq : q < hh l0 ids T (ids t) + 24) (h1 : fc (Rec.off (hh l0 ids T) (ids t) + q) = 0) :
    K5 w n l0 w0 ids wins T (t + 1) (upd fc (Rec.off (hh l0 ids T) (ids t) + q) 1) (wr.setCell ⟨w.heap.size + 3, Rec.off (hh l0 ids T) (ids t) + q, none⟩ (.int .u8 1)) := by
  refine ⟨h.kb.setBit _ 1 (by omega) rfl, h.seen.other _ _ (by simp), ?_⟩
  refine Rec.bits_step l0 w0 ids wins (hh l0 ids T) n t f _ hv5 hw (fun p hp => ?_) ?_
  · rw [upd_other _ _ _ (by omega)]; exact h.out p hp
  · have hv := h.val
    have h2 := Rec.vl_put (f := fc) (a := Rec.off (hh l0 ids T) (ids t)) (v := 1) (q := q) (n := hh l0 ids T (ids t) + 24) hq
    rw [h1] at h2
    show Rec.vl (Rec.put fc _ 1) _ _ = _
    omega

theorem KB.drewN {w : World} {n : Nat} {l0 ids : Nat → Nat} {T sz : Nat} {f : Nat → Nat} {wr : World} (h : KB w n l0 ids T sz f wr) (q : Nat) : KB w n l0 ids T sz f (wr.drewN q) :=
  ⟨below_drewN h.bel q, h.size, h.cnt, h.hs, h.off, h.bits, h.one⟩

/-- Loop 7: the answers of the first a, b members. -/
structure K7 (w : World) (n : Nat) (l0 w0 ids : Nat → Nat) (wins : Nat → Bool) (T : Nat) (f : Nat → Nat) (a b : Nat) (wr : World) : Prop where
  kb : KB w n l0 ids T 7 f wr
  led : Row wr (w.heap.size + 5) 3 n (fun i => .int .i64 ((if i < a then Rec.SL l0 ids T i else 0 : Nat) : Int))
  won : Row wr (w.heap.size + 6) 3 n (fun i => .int .i64 ((if i < b then Rec.SW l0 w0 ids wins T i else 0 : Nat) : Int))

theorem K7.start {w : World} {n : Nat} {l0 w0 ids : Nat → Nat} {wins : Nat → Bool} {T : Nat} {f : Nat → Nat} {wr : World} (h : KB w n l0 ids T 5 f wr) :
    K7 w n l0 w0 ids wins T f 0 0 ((wr.alloc (.cells (madeCells #[.int .i64 0] n) 3)).alloc (.cells (madeCells #[.int .i64 0] n) 3)) := by
  have hs := h.size
  have r1 := (Row.made wr (.int .i64 0) 3 n).old (.cells (madeCells #[.int .i64 0] n) 3)
  have r2 := Row.made2 wr (.cells (madeCells #[.int .i64 0] n) 3) (.int .i64 0) 3 n
  rw [hs] at r1 r2
  exact ⟨(h.alloc _).alloc _, r1.congr (fun k hk => by simp), r2.congr (fun k hk => by simp)⟩

theorem K7.drewN {w : World} {n : Nat} {l0 w0 ids : Nat → Nat} {wins : Nat → Bool} {T : Nat} {f : Nat → Nat} {a b : Nat} {wr : World} (h : K7 w n l0 w0 ids wins T f a b wr) (q : Nat) : K7 w n l0 w0 ids wins T f a b (wr.drewN q) :=
  ⟨h.kb.drewN q, h.led, h.won⟩

theorem row_fill {w : World} {g n : Nat} {F : Nat → Nat} {a : Nat} (h : Row w g 3 n (fun i => .int .i64 ((if i < a then F i else 0 : Nat) : Int))) {x : Int} (hx : x = (F a : Int)) :
    Row (w.setCell ⟨g, a, none⟩ (.int .i64 x)) g 3 n (fun i => .int .i64 ((if i < a + 1 then F i else 0 : Nat) : Int)) := by
  subst hx
  refine (h.set a _).congr (fun k hk => ?_)
  simp only [upd]
  by_cases e : k = a
  · subst e; simp
  · rw [if_neg e]
    by_cases e2 : k < a
    · rw [if_pos e2, if_pos (by omega)]
    · rw [if_neg e2, if_neg (by omega)]

theorem K7.setL {w : World} {n : Nat} {l0 w0 ids : Nat → Nat} {wins : Nat → Bool} {T : Nat} {f : Nat → Nat} {a b : Nat} {wr : World} (h : K7 w n l0 w0 ids wins T f a b wr) {x : Int} (hx : x = (Rec.SL l0 ids T a : Int)) :
    K7 w n l0 w0 ids wins T f (a + 1) b (wr.setCell ⟨w.heap.size + 5, a, none⟩ (.int .i64 x)) :=
  ⟨h.kb.other _ _ (by simp), row_fill h.led hx, h.won.other _ _ (by simp)⟩

theorem K7.setW {w : World} {n : Nat} {l0 w0 ids : Nat → Nat} {wins : Nat → Bool} {T : Nat} {f : Nat → Nat} {a b : Nat} {wr : World} (h : K7 w n l0 w0 ids wins T f a b wr) {x : Int} (hx : x = (Rec.SW l0 w0 ids wins T b : Int)) :
    K7 w n l0 w0 ids wins T f a (b + 1) (wr.setCell ⟨w.heap.size + 6, b, none⟩ (.int .i64 x)) :=
  ⟨h.kb.other _ _ (by simp), h.led.other _ _ (by simp), row_fill h.won hx⟩

theorem won_val {l0 w0 ids : Nat → Nat} {wins : Nat → Bool} {T m : Nat} {f : Nat → Nat} (h1 : ∀ p, f p ≤ 1) (hl : l0 m ≤ 31) (hw : w0 m ≤ l0 m)
    (hv : Rec.vl f (Rec.off (hh l0 ids T) m) (hh l0 ids T m + 24) = Rec.Bv l0 w0 ids wins T m) : Rec.vl f (Rec.off (hh l0 ids T) m + hh l0 ids T m) 24 = Rec.SW l0 w0 ids wins T m := by
  rw [(Rec.inv l0 w0 ids wins m hl hw T).2.1, ← hv]
  exact (Rec.vl_high h1 _ _ _).symm

theorem vl_bd {f : Nat → Nat} (h1 : ∀ p, f p ≤ 1) (a r : Nat) (hr : r ≤ 24) : Rec.vl f a r ≤ 16777216 := by
  have h2 := Rec.vl_lt (a := a) h1 r
  have h3 : 2 ^ r ≤ 2 ^ 24 := Nat.pow_le_pow_right (by omega) hr
  omega

theorem v_step {f : Nat → Nat} {a h r : Nat} (hr : r < 24) (hb : Rec.vl f (a + h) r ≤ 16777216) (hf : f (a + h + r) = 1) :
    wrap64 ((Rec.vl f (a + h) r : Int) + wrap64 (2 ^ (a + h + r - a - h))) = ((Rec.vl f (a + h) (r + 1) : Nat) : Int) := by
  have e : a + h + r - a - h = r := by omega
  have hp : 2 ^ r ≤ 2 ^ 24 := Nat.pow_le_pow_right (by omega) (by omega)
  have ep : (2 : Int) ^ r = ((2 ^ r : Nat) : Int) := by simp
  rw [e, ep]
  simp only [Rec.vl, hf]
  generalize 2 ^ r = x at hp
  rw [IntWalk.wrap64_in (x : Int) ⟨by omega, by omega⟩, IntWalk.wrap64_in _ ⟨by omega, by omega⟩]
  omega

set_option maxHeartbeats 4000000 in
set_option maxRecDepth 100000 in
theorem decayed_any (w : World) (o0 o1 o2 o3 : Option Addr) (c0 c1 c2 c3 n T : Nat) (l0 w0 ids : Nat → Nat) (wins : Nat → Bool) (hn : n ≤ 65536) (hT : T ≤ 65536) (hid : ∀ j, j < T → ids j < n)
    (hl : ∀ m, m < n → l0 m ≤ 31) (hw : ∀ m, m < n → w0 m ≤ l0 m) (s0 : Sl w o0 n (fun i => .int .i64 (l0 i))) (s1 : Sl w o1 n (fun i => .int .i64 (w0 i))) (s2 : Sl w o2 T (fun i => .int .i64 (ids i))) (s3 : Sl w o3 T (fun i => .bool (wins i))) :
    Calls Try.prog 11 #[.slice o0 n c0, .slice o1 n c1, .slice o2 T c2, .slice o3 T c3] w fun e w' => ∃ gl gw, e = .returned (.tuple #[.slice (some ⟨gl, 0, none⟩) n n, .slice (some ⟨gw, 0, none⟩) n n]) ∧
      Row w' gl 3 n (fun i => .int .i64 (Rec.SL l0 ids T i)) ∧ Row w' gw 3 n (fun i => .int .i64 (Rec.SW l0 w0 ids wins T i)) ∧ Below w.heap.size w w' := by
  have hmk := make_run (P := Try.prog) Try.underlying28 Try.info3 rfl n (by omega) (by omega)
  have hmk2 := make_run (P := Try.prog) Try.underlying28 Try.info3 rfl (n + 1) (by omega) (by omega)
  rw [show ((n + 1 : Nat) : Int) = (n : Int) + 1 from by omega] at hmk2
  go_enter Try.func11, Try.ntmps11
  go_wp2
  go_loopg [12] T (fun g i wr => ∃ k : Nat, k ≤ T ∧ g = T - k ∧ i = .int .i64 k ∧ K1 w n ids k wr)
  case atStart => exact ⟨0, by omega, by omega, rfl, K1.start w n ids⟩
  case round =>
    obtain ⟨k, hk, rfl, rfl, hK⟩ := hrel
    by_cases hlt : k < T
    · obtain ⟨b2, off2, rfl, hc2⟩ := s2 (by omega)
      have hbl : b2 < w.heap.size := World.block_lt_of_cell? w ⟨b2, off2 + k, none⟩ (hc2 k hlt)
      have e1 : wr.cell? ⟨b2, off2 + k, none⟩ = some (.int .i64 (ids k)) := (hK.bel.cell (p := ⟨b2, off2 + k, none⟩) hbl).trans (hc2 k hlt)
      have hik := hid k hlt
      have e2 := hK.cnt.cell hik
      have e3 := hK.cnt.free (ids k)
      have hcb := Rec.cnt_le ids (ids k) k
      go_wp2
      go_roundg (T - (k + 1))
      case measure => omega
      case rel => exact ⟨k + 1, by omega, rfl, by go_num, hK.step⟩
    · obtain rfl : T = k := by omega
      have hsz1 := hK.size
      go_wp2
      go_loopg [15] n (fun g i wr' => ∃ m : Nat, m ≤ n ∧ g = n - m ∧ i = .int .i64 m ∧ K2 w n l0 ids T m wr')
      case atStart => exact ⟨0, by omega, by omega, rfl, K2.start l0 hK⟩
      case round =>
        obtain ⟨m, hm, rfl, rfl, hK2⟩ := hrel
        clear hK hsz1
        by_cases hlt : m < n
        · obtain ⟨b0, off0, rfl, hc0⟩ := s0 (by omega)
          have hbl : b0 < w.heap.size := World.block_lt_of_cell? w ⟨b0, off0 + m, none⟩ (hc0 m hlt)
          have e1 : wr.cell? ⟨b0, off0 + m, none⟩ = some (.int .i64 (l0 m)) := (hK2.bel.cell (p := ⟨b0, off0 + m, none⟩) hbl).trans (hc0 m hlt)
          have e2 := hK2.cnt.cell hlt
          have e3 := hK2.hs.cell hlt
          have e4 := hK2.hs.free m
          have e5 := hK2.off.cell (k := m) (by omega)
          have e6 := hK2.off.cell (k := m + 1) (by omega)
          have e7 := hK2.off.free (m + 1)
          simp only [Nat.lt_irrefl, if_false, Nat.le_refl, if_true, Nat.not_succ_le_self] at e3 e5 e6
          have hcb := Rec.cnt_le ids m T
          have hlm := hl m hlt
          have hob := off_bd l0 ids T n m hn hT hm
          have hhb := hh_le l0 ids T m
          by_cases hc : 32 - l0 m ≤ Rec.cnt ids T m
          · have hx : ((hh l0 ids T m : Nat) : Int) = 1 + ((Rec.cnt ids T m : Int) - (32 - (l0 m : Int))) / 16 := by
              simp only [hh, Rec.H]; rw [if_pos hc]; omega
            have HX : Hid _ := hx
            clear hx
            go_wp2
            go_roundg (n - (m + 1))
            case measure => omega
            case rel => exact ⟨m + 1, by omega, rfl, by go_num, hK2.step HX.out.symm (by have := HX.out; simp only [Rec.off]; omega)⟩
          · have hx : ((hh l0 ids T m : Nat) : Int) = 0 := by
              simp only [hh, Rec.H]; rw [if_neg hc]; rfl
            have HX : Hid _ := hx
            clear hx
            go_wp2
            go_roundg (n - (m + 1))
            case measure => omega
            case rel => exact ⟨m + 1, by omega, rfl, by go_num, hK2.step HX.out.symm (by have := HX.out; simp only [Rec.off]; omega)⟩
        · obtain rfl : n = m := by omega
          have e5 := hK2.off.cell (k := n) (by omega)
          simp only [Nat.le_refl, if_true] at e5
          have hob := off_bd l0 ids T n n hn hT hm
          have hmk3 := make_run (P := Try.prog) Try.underlying44 Try.info5 rfl (Rec.off (hh l0 ids T) n) (by omega) (by omega)
          have hsz2 := hK2.size
          go_wp2
          go_loopg [19, 20] n (fun g i b wr' => ∃ m : Nat, m ≤ n ∧ g = n - m ∧ i = .int .i64 m ∧ ∃ f, KB w n l0 ids T 4 f wr' ∧ ∀ j, j < n → Rec.vl f (Rec.off (hh l0 ids T) j) (hh l0 ids T j + 24) = if j < m then w0 j else 0)
          case atStart => exact ⟨0, by omega, by omega, rfl, _, KB.start hK2, fun j hj => by rw [if_neg (by omega)]; exact Rec.vl_zero (fun _ _ => rfl)⟩
          case round =>
            obtain ⟨m, hm3, rfl, rfl, f, hB, hf⟩ := hrel
            clear hK2 hsz2 e5
            by_cases hlt3 : m < n
            · go_wp2
              go_loopg [20] 5 (fun g b wr' => ∃ b' : Nat, b' ≤ 5 ∧ g = 5 - b' ∧ b = .int .i64 b' ∧ ∃ f, KB w n l0 ids T 4 f wr' ∧ ∀ j, j < n → Rec.vl f (Rec.off (hh l0 ids T) j) (hh l0 ids T j + 24) = if j < m then w0 j else if j = m then w0 m % 2 ^ b' else 0)
              case atStart => exact ⟨0, by omega, by omega, rfl, f, hB, fun j hj => by rw [hf j hj]; simp [Nat.mod_one]⟩
              case round =>
                obtain ⟨b, hb5, rfl, rfl, f', hB', hf'⟩ := hrel
                clear hB hf f
                by_cases hb : b < 5
                · obtain ⟨b1, off1, rfl, hc1⟩ := s1 (by omega)
                  have hbl : b1 < w.heap.size := World.block_lt_of_cell? w ⟨b1, off1 + m, none⟩ (hc1 m hlt3)
                  have e1 : wr.cell? ⟨b1, off1 + m, none⟩ = some (.int .i64 (w0 m)) := (hB'.bel.cell (p := ⟨b1, off1 + m, none⟩) hbl).trans (hc1 m hlt3)
                  have hwm : w0 m ≤ 31 := Nat.le_trans (hw m hlt3) (hl m hlt3)
                  have e2 := hB'.off.cell (k := m) (by omega)
                  have hob3 := off_bd l0 ids T n m hn hT hm3
                  have hoff : Rec.off (hh l0 ids T) m + 24 ≤ Rec.off (hh l0 ids T) n := by
                    have := Rec.off_mono (hh l0 ids T) (show m + 1 ≤ n by omega)
                    simp only [Rec.off] at this; omega
                  have e3 := hB'.bits.cell (k := Rec.off (hh l0 ids T) m + b) (by omega)
                  have e4 := hB'.bits.free (Rec.off (hh l0 ids T) m + b)
                  have ht := bit_test (w0 m) b hwm
                  by_cases hbit : w0 m / 2 ^ b % 2 = 1
                  · rw [decide_eq_true hbit] at ht
                    have HB : Hid _ := hbit
                    clear hbit
                    go_wp2
                    go_roundg (5 - (b + 1))
                    case measure => omega
                    case rel => exact ⟨b + 1, by omega, rfl, by go_num, _, hB'.setBit _ 1 (by omega) (by rfl), bits_init hb hB'.one hf' hlt3 HB.out⟩
                  · rw [decide_eq_false hbit] at ht
                    have HB : Hid _ := hbit
                    clear hbit
                    go_wp2
                    go_roundg (5 - (b + 1))
                    case measure => omega
                    case rel => exact ⟨b + 1, by omega, rfl, by go_num, _, hB', bits_init0 hf' HB.out⟩
                · obtain rfl : 5 = b := by omega
                  have hwm : w0 m ≤ 31 := Nat.le_trans (hw m hlt3) (hl m hlt3)
                  go_wp2
                  go_roundg (n - (m + 1))
                  case measure => omega
                  case rel => exact ⟨m + 1, by omega, rfl, by go_num, _, hB', bits_init_next hwm hf'⟩
            · obtain rfl : n = m := by omega
              have hsz3 := hB.size
              go_wp2
              go_loopg [22] T (fun g i wr' => ∃ (t : Nat) (f : Nat → Nat), t ≤ T ∧ g = T - t ∧ i = .int .i64 t ∧ K5 w n l0 w0 ids wins T t f wr')
              case atStart => exact ⟨0, f, by omega, by omega, rfl, K5.start hB hf⟩
              case round =>
                clear hB hf f hsz3
                obtain ⟨t, f, htT, rfl, rfl, h5⟩ := hrel
                by_cases hlt5 : t < T
                · obtain ⟨b0, off0, rfl, hc0⟩ := s0 (by have := hid t hlt5; omega)
                  obtain ⟨b2, off2, rfl, hc2⟩ := s2 (by omega)
                  obtain ⟨b3, off3, rfl, hc3⟩ := s3 (by omega)
                  have hik := hid t hlt5
                  have e1 : wr.cell? ⟨b2, off2 + t, none⟩ = some (.int .i64 (ids t)) := (h5.kb.bel.cell (p := ⟨b2, off2 + t, none⟩) (World.block_lt_of_cell? w ⟨b2, off2 + t, none⟩ (hc2 t hlt5))).trans (hc2 t hlt5)
                  have e2 : wr.cell? ⟨b3, off3 + t, none⟩ = some (.bool (wins t)) := (h5.kb.bel.cell (p := ⟨b3, off3 + t, none⟩) (World.block_lt_of_cell? w ⟨b3, off3 + t, none⟩ (hc3 t hlt5))).trans (hc3 t hlt5)
                  have e3 : wr.cell? ⟨b0, off0 + ids t, none⟩ = some (.int .i64 (l0 (ids t))) := (h5.kb.bel.cell (p := ⟨b0, off0 + ids t, none⟩) (World.block_lt_of_cell? w ⟨b0, off0 + ids t, none⟩ (hc0 _ hik))).trans (hc0 _ hik)
                  have l2 : b2 < w.heap.size := World.block_lt_of_cell? w ⟨b2, off2 + t, none⟩ (hc2 t hlt5)
                  have l3 : b3 < w.heap.size := World.block_lt_of_cell? w ⟨b3, off3 + t, none⟩ (hc3 t hlt5)
                  have l0' : b0 < w.heap.size := World.block_lt_of_cell? w ⟨b0, off0 + ids t, none⟩ (hc0 _ hik)
                  have e4 := h5.seen.cell hik
                  have e5 := h5.seen.free (ids t)
                  have e6 := h5.kb.off.cell (k := ids t) (by omega)
                  have hcb := Rec.cnt_le ids (ids t) t
                  have hlm := hl _ hik
                  have hob5 := off_bd l0 ids T n (ids t) hn hT (by omega)
                  by_cases hwt : wins t = true
                  · rw [hwt] at e2
                    have HW : Hid (wins t = true) := hwt
                    clear hwt
                    by_cases hc : 32 - l0 (ids t) ≤ Rec.cnt ids t (ids t)
                    · have hg : ((Rec.H (l0 (ids t)) (Rec.cnt ids t (ids t)) : Nat) : Int) = 1 + ((Rec.cnt ids t (ids t) : Int) + 1 - (32 - (l0 (ids t) : Int)) - 1) / 16 := by
                        unfold Rec.H; rw [if_pos hc]; omega
                      have HG : Hid _ := hg
                      clear hg
                      go_wp2
                      go_loopg [27] (hh l0 ids T (ids t) + 24 - Rec.H (l0 (ids t)) (Rec.cnt ids t (ids t))) (fun g p wr' => ∃ (q : Nat) (fc : Nat → Nat), g = hh l0 ids T (ids t) + 24 - q ∧ p = .int .i64 ((Rec.off (hh l0 ids T) (ids t) : Int) + (q : Int)) ∧ K6 w n l0 w0 ids wins T t f q fc wr')
                      case atStart => exact ⟨Rec.H (l0 (ids t)) (Rec.cnt ids t (ids t)), f, rfl, congrArg (Value.int .i64) (by have := HG.out; omega), K6.start h5 hlt5 hik⟩
                      case round =>
                        have hv5 : Hid _ := h5.val
                        clear h5 e1 e2 e3 e4 e5 e6
                        obtain ⟨q, fc, rfl, rfl, h6⟩ := hrel
                        have hq := h6.lt hlt5 HW.out hlm (hw _ hik)
                        have e6 := h6.kb.off.cell (k := ids t + 1) (by omega)
                        have hoff1 : Rec.off (hh l0 ids T) (ids t) + q < Rec.off (hh l0 ids T) (ids t + 1) := by simp only [Rec.off]; omega
                        have hoff2 := Rec.off_mono (hh l0 ids T) (show ids t + 1 ≤ n by omega)
                        have hob6 := off_bd l0 ids T n n hn hT (by omega)
                        have e7 := h6.kb.bits.cell (k := Rec.off (hh l0 ids T) (ids t) + q) (by omega)
                        have e8 := h6.kb.bits.free (Rec.off (hh l0 ids T) (ids t) + q)
                        by_cases hf1 : fc (Rec.off (hh l0 ids T) (ids t) + q) = 1
                        · have HF : Hid _ := hf1
                          simp only [hf1] at e7
                          clear hf1
                          go_wp2
                          go_roundg (hh l0 ids T (ids t) + 24 - (q + 1))
                          case measure => omega
                          case rel => exact ⟨q + 1, _, rfl, by go_num, h6.step hq HF.out⟩
                        · have hf0 : fc (Rec.off (hh l0 ids T) (ids t) + q) = 0 := by have := h6.kb.one (Rec.off (hh l0 ids T) (ids t) + q); omega
                          have HF : Hid _ := hf0
                          simp only [hf0] at e7
                          clear hf1 hf0
                          go_wp2
                          go_roundg (T - (t + 1))
                          case measure => omega
                          case rel => exact ⟨t + 1, _, by omega, rfl, by go_num, h6.done hv5.out HW.out hq HF.out⟩
                    · have hg : ((Rec.H (l0 (ids t)) (Rec.cnt ids t (ids t)) : Nat) : Int) = 0 := by
                        unfold Rec.H; rw [if_neg hc]; rfl
                      have HG : Hid _ := hg
                      clear hg
                      go_wp2
                      go_loopg [27] (hh l0 ids T (ids t) + 24 - Rec.H (l0 (ids t)) (Rec.cnt ids t (ids t))) (fun g p wr' => ∃ (q : Nat) (fc : Nat → Nat), g = hh l0 ids T (ids t) + 24 - q ∧ p = .int .i64 ((Rec.off (hh l0 ids T) (ids t) : Int) + (q : Int)) ∧ K6 w n l0 w0 ids wins T t f q fc wr')
                      case atStart => exact ⟨Rec.H (l0 (ids t)) (Rec.cnt ids t (ids t)), f, rfl, congrArg (Value.int .i64) (by have := HG.out; omega), K6.start h5 hlt5 hik⟩
                      case round =>
                        have hv5 : Hid _ := h5.val
                        clear h5 e1 e2 e3 e4 e5 e6
                        obtain ⟨q, fc, rfl, rfl, h6⟩ := hrel
                        have hq := h6.lt hlt5 HW.out hlm (hw _ hik)
                        have e6 := h6.kb.off.cell (k := ids t + 1) (by omega)
                        have hoff1 : Rec.off (hh l0 ids T) (ids t) + q < Rec.off (hh l0 ids T) (ids t + 1) := by simp only [Rec.off]; omega
                        have hoff2 := Rec.off_mono (hh l0 ids T) (show ids t + 1 ≤ n by omega)
                        have hob6 := off_bd l0 ids T n n hn hT (by omega)
                        have e7 := h6.kb.bits.cell (k := Rec.off (hh l0 ids T) (ids t) + q) (by omega)
                        have e8 := h6.kb.bits.free (Rec.off (hh l0 ids T) (ids t) + q)
                        by_cases hf1 : fc (Rec.off (hh l0 ids T) (ids t) + q) = 1
                        · have HF : Hid _ := hf1
                          simp only [hf1] at e7
                          clear hf1
                          go_wp2
                          go_roundg (hh l0 ids T (ids t) + 24 - (q + 1))
                          case measure => omega
                          case rel => exact ⟨q + 1, _, rfl, by go_num, h6.step hq HF.out⟩
                        · have hf0 : fc (Rec.off (hh l0 ids T) (ids t) + q) = 0 := by have := h6.kb.one (Rec.off (hh l0 ids T) (ids t) + q); omega
                          have HF : Hid _ := hf0
                          simp only [hf0] at e7
                          clear hf1 hf0
                          go_wp2
                          go_roundg (T - (t + 1))
                          case measure => omega
                          case rel => exact ⟨t + 1, _, by omega, rfl, by go_num, h6.done hv5.out HW.out hq HF.out⟩
                  · have hwt' : wins t = false := by simpa using hwt
                    rw [hwt'] at e2
                    have HW : Hid (wins t = false) := hwt'
                    clear hwt hwt'
                    go_wp2
                    go_roundg (T - (t + 1))
                    case measure => omega
                    case rel => exact ⟨t + 1, f, by omega, rfl, by go_num, h5.skip HW.out⟩
                · obtain rfl : T = t := by omega
                  have hval : Hid _ := h5.val
                  have hkb := h5.kb
                  have hone : Hid _ := h5.kb.one
                  clear h5
                  have hsz5 := hkb.size
                  go_wp2
                  go_loopg [30] n (fun g i wr' => ∃ m : Nat, m ≤ n ∧ g = n - m ∧ i = .int .i64 m ∧ K7 w n l0 w0 ids wins T f m m wr')
                  case atStart => exact ⟨0, by omega, by omega, rfl, K7.start hkb⟩
                  case round =>
                    clear hkb hsz5
                    obtain ⟨m, hm7, rfl, rfl, h7⟩ := hrel
                    by_cases hlt7 : m < n
                    · obtain ⟨b0, off0, rfl, hc0⟩ := s0 (by omega)
                      have e1 : wr.cell? ⟨b0, off0 + m, none⟩ = some (.int .i64 (l0 m)) := (h7.kb.bel.cell (p := ⟨b0, off0 + m, none⟩) (World.block_lt_of_cell? w ⟨b0, off0 + m, none⟩ (hc0 m hlt7))).trans (hc0 m hlt7)
                      have lb0 : b0 < w.heap.size := World.block_lt_of_cell? w ⟨b0, off0 + m, none⟩ (hc0 m hlt7)
                      have e2 := h7.kb.cnt.cell hlt7
                      have e3 := h7.led.cell hlt7
                      have e4 := h7.led.free m
                      have e5 := h7.kb.off.cell (k := m) (by omega)
                      have e6 := h7.kb.hs.cell hlt7
                      simp only [Nat.lt_irrefl, if_false] at e3
                      have hcb := Rec.cnt_le ids m T
                      have hlm := hl m hlt7
                      have hob7 := off_bd l0 ids T n m hn hT hm7
                      have hhb7 := hh_le l0 ids T m
                      have hinv := (Rec.inv l0 w0 ids wins m hlm (hw m hlt7) T).1
                      by_cases hc : Rec.cnt ids T m < 32 - l0 m
                      · have HL : Hid (((Rec.SL l0 ids T m : Nat) : Int) = (l0 m : Int) + (Rec.cnt ids T m : Int)) := by
                          show _ = _
                          rw [hinv, if_pos hc]; omega
                        clear hinv
                        go_wp2
                        go_quiet (fail)
                        go_wp2
                        go_loopg [33, 34] 24 (fun g v p wr' => ∃ r : Nat, r ≤ 24 ∧ g = 24 - r ∧ p = .int .i64 ((Rec.off (hh l0 ids T) m : Int) + (hh l0 ids T m : Int) + (r : Int)) ∧ v = .int .i64 ((Rec.vl f (Rec.off (hh l0 ids T) m + hh l0 ids T m) r : Nat) : Int) ∧ K7 w n l0 w0 ids wins T f (m + 1) m wr')
                        case atStart => exact ⟨0, by omega, by omega, congrArg (Value.int .i64) (by omega), rfl, (h7.setL HL.out.symm).drewN _⟩
                        case round =>
                          clear h7 e1 e2 e3 e4 e5 e6
                          obtain ⟨r, hr24, rfl, rfl, rfl, h7⟩ := hrel
                          have e5 := h7.kb.off.cell (k := m) (by omega)
                          have e6 := h7.kb.hs.cell hlt7
                          have e7 := h7.kb.off.cell (k := m + 1) (by omega)
                          have hoff2 := Rec.off_mono (hh l0 ids T) (show m + 1 ≤ n by omega)
                          have hob8 := off_bd l0 ids T n n hn hT (by omega)
                          have hoffle : Rec.off (hh l0 ids T) (m + 1) ≤ Rec.off (hh l0 ids T) m + hh l0 ids T m + 24 := by simp only [Rec.off]; omega
                          have hoffge : Rec.off (hh l0 ids T) m + hh l0 ids T m + 24 ≤ Rec.off (hh l0 ids T) (m + 1) := by simp only [Rec.off]; omega
                          have hvb := vl_bd h7.kb.one (Rec.off (hh l0 ids T) m + hh l0 ids T m) r hr24
                          by_cases hr : r < 24
                          · have e8 := h7.kb.bits.cell (k := Rec.off (hh l0 ids T) m + hh l0 ids T m + r) (by omega)
                            by_cases hf1 : f (Rec.off (hh l0 ids T) m + hh l0 ids T m + r) = 1
                            · have HF : Hid _ := hf1
                              simp only [hf1] at e8
                              clear hf1
                              go_wp2
                              go_quiet (fail)
                              go_wp2
                              go_roundg (24 - (r + 1))
                              case measure => omega
                              case rel => exact ⟨r + 1, by omega, rfl, by go_num, congrArg (Value.int .i64) (v_step hr hvb HF.out), h7.drewN _⟩
                            · have hf0 : f (Rec.off (hh l0 ids T) m + hh l0 ids T m + r) = 0 := by have := h7.kb.one (Rec.off (hh l0 ids T) m + hh l0 ids T m + r); omega
                              have HF : Hid _ := hf0
                              simp only [hf0] at e8
                              clear hf1 hf0
                              go_wp2
                              go_roundg (24 - (r + 1))
                              case measure => omega
                              case rel => exact ⟨r + 1, by omega, rfl, by go_num, by have := HF.out; simp only [Rec.vl]; rw [this]; go_num, h7⟩
                          · obtain rfl : 24 = r := by omega
                            have e8 := h7.won.cell hlt7
                            have e9 := h7.won.free m
                            simp only [Nat.lt_irrefl, if_false] at e8
                            have HV : Hid _ := won_val h7.kb.one hlm (hw m hlt7) (hval.out m hlt7)
                            go_wp2
                            go_roundg (n - (m + 1))
                            case measure => omega
                            case rel => exact ⟨m + 1, by omega, rfl, by go_num, h7.setW (by rw [HV.out])⟩
                      · have HL : Hid (((Rec.SL l0 ids T m : Nat) : Int) = 16 + ((Rec.cnt ids T m : Int) - (32 - (l0 m : Int))) % 16) := by
                          show _ = _
                          rw [hinv, if_neg hc]; omega
                        clear hinv
                        go_wp2
                        go_quiet (fail)
                        go_wp2
                        go_loopg [33, 34] 24 (fun g v p wr' => ∃ r : Nat, r ≤ 24 ∧ g = 24 - r ∧ p = .int .i64 ((Rec.off (hh l0 ids T) m : Int) + (hh l0 ids T m : Int) + (r : Int)) ∧ v = .int .i64 ((Rec.vl f (Rec.off (hh l0 ids T) m + hh l0 ids T m) r : Nat) : Int) ∧ K7 w n l0 w0 ids wins T f (m + 1) m wr')
                        case atStart => exact ⟨0, by omega, by omega, congrArg (Value.int .i64) (by omega), rfl, (h7.setL HL.out.symm).drewN _⟩
                        case round =>
                          clear h7 e1 e2 e3 e4 e5 e6
                          obtain ⟨r, hr24, rfl, rfl, rfl, h7⟩ := hrel
                          have e5 := h7.kb.off.cell (k := m) (by omega)
                          have e6 := h7.kb.hs.cell hlt7
                          have e7 := h7.kb.off.cell (k := m + 1) (by omega)
                          have hoff2 := Rec.off_mono (hh l0 ids T) (show m + 1 ≤ n by omega)
                          have hob8 := off_bd l0 ids T n n hn hT (by omega)
                          have hoffle : Rec.off (hh l0 ids T) (m + 1) ≤ Rec.off (hh l0 ids T) m + hh l0 ids T m + 24 := by simp only [Rec.off]; omega
                          have hoffge : Rec.off (hh l0 ids T) m + hh l0 ids T m + 24 ≤ Rec.off (hh l0 ids T) (m + 1) := by simp only [Rec.off]; omega
                          have hvb := vl_bd h7.kb.one (Rec.off (hh l0 ids T) m + hh l0 ids T m) r hr24
                          by_cases hr : r < 24
                          · have e8 := h7.kb.bits.cell (k := Rec.off (hh l0 ids T) m + hh l0 ids T m + r) (by omega)
                            by_cases hf1 : f (Rec.off (hh l0 ids T) m + hh l0 ids T m + r) = 1
                            · have HF : Hid _ := hf1
                              simp only [hf1] at e8
                              clear hf1
                              go_wp2
                              go_quiet (fail)
                              go_wp2
                              go_roundg (24 - (r + 1))
                              case measure => omega
                              case rel => exact ⟨r + 1, by omega, rfl, by go_num, congrArg (Value.int .i64) (v_step hr hvb HF.out), h7.drewN _⟩
                            · have hf0 : f (Rec.off (hh l0 ids T) m + hh l0 ids T m + r) = 0 := by have := h7.kb.one (Rec.off (hh l0 ids T) m + hh l0 ids T m + r); omega
                              have HF : Hid _ := hf0
                              simp only [hf0] at e8
                              clear hf1 hf0
                              go_wp2
                              go_roundg (24 - (r + 1))
                              case measure => omega
                              case rel => exact ⟨r + 1, by omega, rfl, by go_num, by have := HF.out; simp only [Rec.vl]; rw [this]; go_num, h7⟩
                          · obtain rfl : 24 = r := by omega
                            have e8 := h7.won.cell hlt7
                            have e9 := h7.won.free m
                            simp only [Nat.lt_irrefl, if_false] at e8
                            have HV : Hid _ := won_val h7.kb.one hlm (hw m hlt7) (hval.out m hlt7)
                            go_wp2
                            go_roundg (n - (m + 1))
                            case measure => omega
                            case rel => exact ⟨m + 1, by omega, rfl, by go_num, h7.setW (by rw [HV.out])⟩
                    · obtain rfl : n = m := by omega
                      go_wp2
                      go_ret2
                      exact ⟨_, _, rfl, h7.led.congr (fun k hk => by simp only [hk, if_true]), h7.won.congr (fun k hk => by simp only [hk, if_true]), h7.kb.bel⟩

end Go.Proofs.Qxb6617119a
