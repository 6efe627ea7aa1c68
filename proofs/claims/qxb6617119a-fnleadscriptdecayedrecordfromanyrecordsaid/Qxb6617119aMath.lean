/- The plain law: the decayed record in closed form is what the calls of lead come to. No Go in sight. -/
namespace Go.Proofs.Qxb6617119a.Rec

/-- f turned at one place. -/
def put {α : Type} (f : Nat → α) (i : Nat) (v : α) : Nat → α := fun k => if k = i then v else f k

/-! ### Numbers as rows of bits -/
def vl (f : Nat → Nat) (a : Nat) : Nat → Nat
  | 0 => 0
  | n + 1 => vl f a n + f (a + n) * 2 ^ n

theorem vl_congr {f g : Nat → Nat} {a : Nat} : ∀ {n : Nat}, (∀ q, q < n → f (a + q) = g (a + q)) → vl f a n = vl g a n
  | 0, _ => rfl
  | n + 1, h => by
    simp only [vl]
    rw [vl_congr (n := n) (fun q hq => h q (by omega)), h n (by omega)]

theorem vl_put_out {f : Nat → Nat} {a n i v : Nat} (h : i < a ∨ a + n ≤ i) : vl (put f i v) a n = vl f a n :=
  vl_congr (fun q hq => by simp only [put]; rw [if_neg (by omega)])

theorem vl_put {f : Nat → Nat} {a v q : Nat} : ∀ {n : Nat}, q < n → vl (put f (a + q) v) a n + f (a + q) * 2 ^ q = vl f a n + v * 2 ^ q
  | 0, h => by omega
  | n + 1, h => by
    simp only [vl]
    by_cases e : q = n
    · subst e
      rw [vl_put_out (n := q) (by omega)]
      simp only [put, if_true]
      omega
    · have ih := vl_put (f := f) (a := a) (v := v) (q := q) (n := n) (by omega)
      have e2 : put f (a + q) v (a + n) = f (a + n) := by simp only [put]; rw [if_neg (by omega)]
      rw [e2]
      omega

theorem vl_ge {f : Nat → Nat} {a q : Nat} : ∀ {n : Nat}, q < n → f (a + q) * 2 ^ q ≤ vl f a n
  | 0, h => by omega
  | n + 1, h => by
    simp only [vl]
    by_cases e : q = n
    · subst e; omega
    · have ih := vl_ge (f := f) (a := a) (q := q) (n := n) (by omega)
      omega

theorem vl_lt {f : Nat → Nat} {a : Nat} (h : ∀ p, f p ≤ 1) : ∀ n, vl f a n < 2 ^ n
  | 0 => by simp [vl]
  | n + 1 => by
    simp only [vl]
    have ih := vl_lt (a := a) h n
    have h1 : f (a + n) * 2 ^ n ≤ 1 * 2 ^ n := Nat.mul_le_mul_right _ (h _)
    have h2 : 2 ^ (n + 1) = 2 ^ n + 2 ^ n := by rw [Nat.pow_succ]; omega
    omega

theorem vl_split (f : Nat → Nat) (a h : Nat) : ∀ k, vl f a (h + k) = vl f a h + 2 ^ h * vl f (a + h) k
  | 0 => by simp [vl]
  | k + 1 => by
    show vl f a ((h + k) + 1) = _
    simp only [vl]
    rw [vl_split f a h k, Nat.mul_add, Nat.add_assoc a h k, Nat.pow_add]
    have : 2 ^ h * (f (a + (h + k)) * 2 ^ k) = f (a + (h + k)) * (2 ^ h * 2 ^ k) := by
      rw [Nat.mul_left_comm]
    rw [this]
    omega

theorem vl_zero {f : Nat → Nat} {a : Nat} : ∀ {n : Nat}, (∀ q, q < n → f (a + q) = 0) → vl f a n = 0
  | 0, _ => rfl
  | n + 1, h => by
    simp only [vl]
    rw [vl_zero (n := n) (fun q hq => h q (by omega)), h n (by omega)]
    omega

theorem vl_high {f : Nat → Nat} (h1 : ∀ p, f p ≤ 1) (a h k : Nat) : vl f a (h + k) / 2 ^ h = vl f (a + h) k := by
  rw [vl_split, Nat.add_mul_div_left _ _ (Nat.two_pow_pos h), Nat.div_eq_of_lt (vl_lt h1 h)]
  omega

theorem mod_pow_succ (w b : Nat) : w % 2 ^ (b + 1) = w % 2 ^ b + (w / 2 ^ b % 2) * 2 ^ b := by
  rw [Nat.pow_succ, Nat.mod_mul, Nat.mul_comm]

/-! ### The record -/
def H (l0 c : Nat) : Nat := if 32 - l0 ≤ c then 1 + (c - (32 - l0)) / 16 else 0

def cnt (ids : Nat → Nat) : Nat → Nat → Nat
  | 0, _ => 0
  | t + 1, m => cnt ids t m + if ids t = m then 1 else 0

def stL (l : Nat) : Nat := if l = 31 then 16 else l + 1
def stW (l v : Nat) (b : Bool) : Nat := if l = 31 then (v + b.toNat) / 2 else v + b.toNat

/-- The counts of each member behind t calls of lead. -/
def SL (l0 : Nat → Nat) (ids : Nat → Nat) : Nat → Nat → Nat
  | 0 => l0
  | t + 1 => put (SL l0 ids t) (ids t) (stL (SL l0 ids t (ids t)))
def SW (l0 w0 : Nat → Nat) (ids : Nat → Nat) (wins : Nat → Bool) : Nat → Nat → Nat
  | 0 => w0
  | t + 1 => put (SW l0 w0 ids wins t) (ids t) (stW (SL l0 ids t (ids t)) (SW l0 w0 ids wins t (ids t)) (wins t))

/-- The sum that is kept exactly. -/
def Bv (l0 w0 : Nat → Nat) (ids : Nat → Nat) (wins : Nat → Bool) : Nat → Nat → Nat
  | 0 => w0
  | t + 1 => fun m => Bv l0 w0 ids wins t m + if ids t = m ∧ wins t = true then 2 ^ H (l0 m) (cnt ids t m) else 0

theorem cnt_le (ids : Nat → Nat) (m : Nat) : ∀ t, cnt ids t m ≤ t
  | 0 => by simp [cnt]
  | t + 1 => by simp only [cnt]; have := cnt_le ids m t; split <;> omega

theorem cnt_mono (ids : Nat → Nat) (m : Nat) {s t : Nat} (h : s ≤ t) : cnt ids s m ≤ cnt ids t m := by
  induction t with
  | zero => have : s = 0 := by omega
            subst this; exact Nat.le_refl _
  | succ t ih =>
    by_cases e : s = t + 1
    · subst e; exact Nat.le_refl _
    · have := ih (by omega)
      simp only [cnt]; omega

theorem H_mono (l0 : Nat) {a b : Nat} (h : a ≤ b) : H l0 a ≤ H l0 b := by
  unfold H
  split <;> split <;> omega

theorem H_le (l0 c : Nat) : H l0 c ≤ 1 + c := by
  unfold H; split <;> omega

/-- What the record's two counts are, behind t calls. -/
theorem inv (l0 w0 : Nat → Nat) (ids : Nat → Nat) (wins : Nat → Bool) (m : Nat) (hl : l0 m ≤ 31) (hw : w0 m ≤ l0 m) : ∀ t,
    SL l0 ids t m = (if cnt ids t m < 32 - l0 m then l0 m + cnt ids t m else 16 + (cnt ids t m - (32 - l0 m)) % 16) ∧
    SW l0 w0 ids wins t m = Bv l0 w0 ids wins t m / 2 ^ H (l0 m) (cnt ids t m) ∧ SW l0 w0 ids wins t m ≤ SL l0 ids t m ∧ SL l0 ids t m ≤ 31
  | 0 => by
    rw [show cnt ids 0 m = 0 from rfl, show SL l0 ids 0 m = l0 m from rfl, show SW l0 w0 ids wins 0 m = w0 m from rfl, show Bv l0 w0 ids wins 0 m = w0 m from rfl]
    have e0 : H (l0 m) 0 = 0 := by unfold H; rw [if_neg (by omega)]
    rw [if_pos (by omega), e0]
    simp
    omega
  | t + 1 => by
    obtain ⟨h1, h2, h3, h4⟩ := inv l0 w0 ids wins m hl hw t
    by_cases e : ids t = m
    · have eL : SL l0 ids (t + 1) m = stL (SL l0 ids t m) := by simp only [SL, put]; rw [if_pos e.symm, e]
      have eW : SW l0 w0 ids wins (t + 1) m = stW (SL l0 ids t m) (SW l0 w0 ids wins t m) (wins t) := by simp only [SW, put]; rw [if_pos e.symm, e]
      have eC : cnt ids (t + 1) m = cnt ids t m + 1 := by simp only [cnt]; rw [if_pos e]
      have eB : Bv l0 w0 ids wins (t + 1) m = Bv l0 w0 ids wins t m + (wins t).toNat * 2 ^ H (l0 m) (cnt ids t m) := by
        simp only [Bv]
        cases wins t <;> simp [e]
      rw [eL, eW, eC, eB]
      generalize SL l0 ids t m = l at *
      generalize SW l0 w0 ids wins t m = v at *
      generalize Bv l0 w0 ids wins t m = B at *
      generalize cnt ids t m = c at *
      generalize l0 m = k at *
      have hb : (wins t).toNat ≤ 1 := by cases wins t <;> simp
      unfold stL stW
      generalize (wins t).toNat = b at hb ⊢
      have hdiv : (B + b * 2 ^ H k c) / 2 ^ H k c = v + b := by
        rw [Nat.add_mul_div_right _ _ (Nat.two_pow_pos _), h2]
      by_cases h31 : l = 31
      · have hH : H k (c + 1) = H k c + 1 := by
          unfold H
          rw [h31] at h1
          split at h1
          · rw [if_pos (by omega), if_neg (by omega)]
            omega
          · rw [if_pos (by omega), if_pos (by omega)]
            omega
        have hd2 : (B + b * 2 ^ H k c) / 2 ^ (H k c + 1) = (v + b) / 2 := by
          rw [Nat.pow_succ, ← Nat.div_div_eq_div_mul, hdiv]
        rw [if_pos h31, if_pos h31, hH, hd2]
        refine ⟨?_, rfl, by omega, by omega⟩
        rw [h31] at h1
        split at h1
        · rw [if_neg (by omega)]; omega
        · rw [if_neg (by omega)]; omega
      · have hH : H k (c + 1) = H k c := by
          unfold H
          split at h1
          · rw [if_neg (by omega), if_neg (by omega)]
          · rw [if_pos (by omega), if_pos (by omega)]
            omega
        rw [if_neg h31, if_neg h31, hH, hdiv]
        refine ⟨?_, rfl, by omega, by omega⟩
        split at h1
        · rw [if_pos (by omega)]; omega
        · rw [if_neg (by omega)]; omega
    · have eL : SL l0 ids (t + 1) m = SL l0 ids t m := by simp only [SL, put]; rw [if_neg (Ne.symm e)]
      have eW : SW l0 w0 ids wins (t + 1) m = SW l0 w0 ids wins t m := by simp only [SW, put]; rw [if_neg (Ne.symm e)]
      have eC : cnt ids (t + 1) m = cnt ids t m := by simp only [cnt]; rw [if_neg e]; rfl
      have eB : Bv l0 w0 ids wins (t + 1) m = Bv l0 w0 ids wins t m := by simp only [Bv]; rw [if_neg (fun h => e h.1)]; rfl
      rw [eL, eW, eC, eB]
      exact ⟨h1, h2, h3, h4⟩

/-- The exact sum fits in the bits that are laid for it. -/
theorem Bv_lt (l0 w0 : Nat → Nat) (ids : Nat → Nat) (wins : Nat → Bool) (m : Nat) (hl : l0 m ≤ 31) (hw : w0 m ≤ l0 m) {t T : Nat} (ht : t ≤ T) :
    Bv l0 w0 ids wins t m < 2 ^ (H (l0 m) (cnt ids T m) + 24) := by
  obtain ⟨_, h2, h3, h4⟩ := inv l0 w0 ids wins m hl hw t
  have hH : H (l0 m) (cnt ids t m) ≤ H (l0 m) (cnt ids T m) := H_mono _ (cnt_mono ids m ht)
  have hv : Bv l0 w0 ids wins t m / 2 ^ H (l0 m) (cnt ids t m) < 32 := by omega
  have h5 : Bv l0 w0 ids wins t m < 32 * 2 ^ H (l0 m) (cnt ids t m) := (Nat.div_lt_iff_lt_mul (Nat.two_pow_pos _)).1 hv
  have h6 : 32 * 2 ^ H (l0 m) (cnt ids t m) = 2 ^ (H (l0 m) (cnt ids t m) + 5) := by rw [Nat.pow_add]; omega
  have h7 : 2 ^ (H (l0 m) (cnt ids t m) + 5) ≤ 2 ^ (H (l0 m) (cnt ids T m) + 24) := Nat.pow_le_pow_right (by omega) (by omega)
  omega

/-! ### Where each member's bits lie -/
def off (h : Nat → Nat) : Nat → Nat
  | 0 => 0
  | m + 1 => off h m + h m + 24

theorem off_mono (h : Nat → Nat) {a b : Nat} (hab : a ≤ b) : off h a ≤ off h b := by
  induction b with
  | zero => have : a = 0 := by omega
            subst this; exact Nat.le_refl _
  | succ b ih =>
    by_cases e : a = b + 1
    · subst e; exact Nat.le_refl _
    · have := ih (by omega)
      simp only [off]; omega

theorem off_le (h : Nat → Nat) (M : Nat) (hM : ∀ m, h m ≤ M) : ∀ m, off h m ≤ m * (M + 24)
  | 0 => by simp [off]
  | m + 1 => by
    have := off_le h M hM m
    have h1 := hM m
    simp only [off]
    rw [Nat.succ_mul]
    omega

theorem off_apart (h : Nat → Nat) {a b : Nat} (hne : a ≠ b) : off h a + (h a + 24) ≤ off h b ∨ off h b + (h b + 24) ≤ off h a := by
  rcases Nat.lt_or_gt_of_ne hne with hlt | hgt
  · left
    have := off_mono h (show a + 1 ≤ b by omega)
    simp only [off] at this; omega
  · right
    have := off_mono h (show b + 1 ≤ a by omega)
    simp only [off] at this; omega

/-- One more win counted: what the rows of bits stand for. -/
theorem bits_step (l0 w0 : Nat → Nat) (ids : Nat → Nat) (wins : Nat → Bool) (h : Nat → Nat) (n t : Nat) (f f' : Nat → Nat)
    (hf : ∀ m, m < n → vl f (off h m) (h m + 24) = Bv l0 w0 ids wins t m) (hw : wins t = true)
    (hout : ∀ p, (p < off h (ids t) ∨ off h (ids t) + (h (ids t) + 24) ≤ p) → f' p = f p)
    (hin : vl f' (off h (ids t)) (h (ids t) + 24) = Bv l0 w0 ids wins t (ids t) + 2 ^ H (l0 (ids t)) (cnt ids t (ids t))) :
    ∀ m, m < n → vl f' (off h m) (h m + 24) = Bv l0 w0 ids wins (t + 1) m := by
  intro m hm
  by_cases e : ids t = m
  · subst e
    rw [hin]
    simp [Bv, hw]
  · have eB : Bv l0 w0 ids wins (t + 1) m = Bv l0 w0 ids wins t m := by simp only [Bv]; rw [if_neg (fun h => e h.1)]; rfl
    rw [eB, ← hf m hm]
    refine vl_congr (fun q hq => hout _ ?_)
    rcases off_apart h e with h1 | h1 <;> omega

theorem bits_skip (l0 w0 : Nat → Nat) (ids : Nat → Nat) (wins : Nat → Bool) (t m : Nat) (hw : wins t = false) : Bv l0 w0 ids wins (t + 1) m = Bv l0 w0 ids wins t m := by
  simp [Bv, hw]

end Go.Proofs.Qxb6617119a.Rec
