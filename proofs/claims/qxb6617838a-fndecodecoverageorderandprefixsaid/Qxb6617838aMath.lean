/- The plain law of a canonical code: first codes, places, tiles. No Go in sight. -/
namespace Go.Proofs.Qxb6617838a.Pre

/-- The first code of k + 1 bits. -/
def F (c : Nat → Nat) : Nat → Nat
  | 0 => 0
  | k + 1 => 2 * (F c k + c (k + 1))
/-- How many codes have at most k bits. -/
def T (c : Nat → Nat) : Nat → Nat
  | 0 => 0
  | k + 1 => T c k + c (k + 1)
/-- Where the tiles of the codes of k + 1 bits begin. -/
def S (c : Nat → Nat) : Nat → Nat
  | 0 => 0
  | k + 1 => S c k + c (k + 1) * 2 ^ (14 - k)

/-- The code fits: in its bits, and in its symbols. -/
def Fits (c : Nat → Nat) (n : Nat) : Prop := ∀ k, k < n → F c k + c (k + 1) ≤ 2 ^ (k + 1) ∧ T c (k + 1) ≤ 512

theorem Fits.mono {c : Nat → Nat} {m n : Nat} (h : Fits c n) (hm : m ≤ n) : Fits c m := fun k hk => h k (by omega)

theorem F_le {c : Nat → Nat} {n : Nat} (h : Fits c n) : ∀ k, k ≤ n → F c k ≤ 2 ^ (k + 1)
  | 0, _ => by simp [F]
  | k + 1, hk => by
    have := (h k (by omega)).1
    simp only [F]
    have e : 2 ^ (k + 1 + 1) = 2 * 2 ^ (k + 1) := by rw [Nat.pow_succ]; omega
    omega

theorem S_eq (c : Nat → Nat) : ∀ k, k ≤ 14 → S c k = F c k * 2 ^ (14 - k)
  | 0, _ => by simp [S, F]
  | k + 1, hk => by
    have ih := S_eq c k (by omega)
    simp only [S, F]
    rw [ih, ← Nat.add_mul, show 14 - k = (14 - (k + 1)) + 1 from by omega, Nat.pow_succ, Nat.mul_comm 2, Nat.mul_assoc, Nat.mul_comm 2]

theorem S_succ (c : Nat → Nat) (k : Nat) (hk : k ≤ 14) : S c (k + 1) = (F c k + c (k + 1)) * 2 ^ (14 - k) := by
  simp only [S]; rw [S_eq c k hk, Nat.add_mul]

theorem S_le {c : Nat → Nat} {n : Nat} (h : Fits c n) (k : Nat) (hk : k < n) (h14 : k ≤ 14) : S c (k + 1) ≤ 32768 := by
  rw [S_succ c k h14]
  have h1 := Nat.mul_le_mul_right (2 ^ (14 - k)) (h k hk).1
  have e : 2 ^ (k + 1) * 2 ^ (14 - k) = 32768 := by
    rw [← Nat.pow_add, show k + 1 + (14 - k) = 15 from by omega]
  omega

theorem S_mono (c : Nat → Nat) {a b : Nat} (h : a ≤ b) : S c a ≤ S c b := by
  induction b with
  | zero => have : a = 0 := by omega
            subst this; exact Nat.le_refl _
  | succ b ih =>
    by_cases e : a = b + 1
    · subst e; exact Nat.le_refl _
    · have := ih (by omega)
      simp only [S]; omega

theorem T_mono (c : Nat → Nat) {a b : Nat} (h : a ≤ b) : T c a ≤ T c b := by
  induction b with
  | zero => have : a = 0 := by omega
            subst this; exact Nat.le_refl _
  | succ b ih =>
    by_cases e : a = b + 1
    · subst e; exact Nat.le_refl _
    · have := ih (by omega)
      simp only [T]; omega

/-- What decoding v comes to. -/
def IsDec (c s : Nat → Nat) (v : Nat) (sym len : Nat) : Prop :=
  (∃ k, k < 15 ∧ S c k ≤ v ∧ v < S c (k + 1) ∧ len = k + 1 ∧ sym = s (T c k + (v - S c k) / 2 ^ (14 - k))) ∨ (S c 15 ≤ v ∧ sym = 0 ∧ len = 0)

theorem IsDec.unique {c s : Nat → Nat} {v a b a' b' : Nat} (h : IsDec c s v a b) (h' : IsDec c s v a' b') : a = a' ∧ b = b' := by
  rcases h with ⟨k, hk, h1, h2, rfl, rfl⟩ | ⟨h1, rfl, rfl⟩ <;> rcases h' with ⟨k', hk', h1', h2', rfl, rfl⟩ | ⟨h1', rfl, rfl⟩
  · have e : k = k' := by
      rcases Nat.lt_trichotomy k k' with h | h | h
      · have := S_mono c (show k + 1 ≤ k' by omega); omega
      · exact h
      · have := S_mono c (show k' + 1 ≤ k by omega); omega
    subst e
    exact ⟨rfl, rfl⟩
  · have := S_mono c (show k + 1 ≤ 15 by omega); omega
  · have := S_mono c (show k' + 1 ≤ 15 by omega); omega
  · exact ⟨rfl, rfl⟩

/-- The code of k + 1 bits that v begins with, against the first one. -/
theorem code_ge {c : Nat → Nat} {v k : Nat} (hk : k ≤ 14) (h : S c k ≤ v) : F c k ≤ v / 2 ^ (14 - k) := by
  rw [S_eq c k hk] at h
  exact (Nat.le_div_iff_mul_le (Nat.two_pow_pos _)).2 h

theorem code_lt {c : Nat → Nat} {v k : Nat} (hk : k ≤ 14) : v / 2 ^ (14 - k) < F c k + c (k + 1) ↔ v < S c (k + 1) := by
  rw [S_succ c k hk]
  exact Nat.div_lt_iff_lt_mul (Nat.two_pow_pos _)

theorem code_sub {c : Nat → Nat} {v k : Nat} (hk : k ≤ 14) : v / 2 ^ (14 - k) - F c k = (v - S c k) / 2 ^ (14 - k) := by
  rw [S_eq c k hk, Nat.mul_comm, Nat.sub_mul_div]

/-- The place of the symbol. -/
theorem place_lt {c : Nat → Nat} {v k : Nat} (h : Fits c 15) (hk : k < 15) (h1 : S c k ≤ v) (h2 : v < S c (k + 1)) : T c k + (v / 2 ^ (14 - k) - F c k) < 512 := by
  have h3 := (code_lt (c := c) (v := v) (show k ≤ 14 by omega)).2 h2
  have h4 := (h k hk).2
  have h5 := code_ge (c := c) (show k ≤ 14 by omega) h1
  simp only [T] at h4
  omega

theorem IsDec.found {c s : Nat → Nat} {v k : Nat} (hk : k < 15) (h1 : S c k ≤ v) (h2 : v < S c (k + 1)) : IsDec c s v (s (T c k + (v / 2 ^ (14 - k) - F c k))) (k + 1) :=
  .inl ⟨k, hk, h1, h2, rfl, by rw [code_sub (by omega)]⟩

/-- The j-th tile of k + 1 bits. -/
theorem IsDec.tile {c s : Nat → Nat} {v k j : Nat} (hk : k < 15) (hj : j < c (k + 1)) (h1 : S c k + j * 2 ^ (14 - k) ≤ v) (h2 : v < S c k + (j + 1) * 2 ^ (14 - k)) : IsDec c s v (s (T c k + j)) (k + 1) := by
  have h3 : (j + 1) * 2 ^ (14 - k) ≤ c (k + 1) * 2 ^ (14 - k) := Nat.mul_le_mul_right _ hj
  refine .inl ⟨k, hk, by omega, by simp only [S]; omega, rfl, ?_⟩
  have e : (v - S c k) / 2 ^ (14 - k) = j := Nat.div_eq_of_lt_le (by omega) (by omega)
  rw [e]

/-! ### What the second law asks -/
theorem IsDec.len_le {c s : Nat → Nat} {v a b : Nat} (h : IsDec c s v a b) : b ≤ 15 := by
  rcases h with ⟨k, hk, h1, h2, rfl, rfl⟩ | ⟨h1, rfl, rfl⟩ <;> omega

theorem IsDec.covered {c s : Nat → Nat} {v a b : Nat} (h : IsDec c s v a b) : 0 < b ↔ v < S c 15 := by
  rcases h with ⟨k, hk, h1, h2, rfl, rfl⟩ | ⟨h1, rfl, rfl⟩
  · have := S_mono c (show k + 1 ≤ 15 by omega); omega
  · omega

theorem IsDec.none {c s : Nat → Nat} {v a b : Nat} (h : IsDec c s v a b) (hb : b = 0) : a = 0 := by
  rcases h with ⟨k, hk, h1, h2, rfl, rfl⟩ | ⟨h1, rfl, rfl⟩
  · omega
  · rfl

theorem IsDec.order {c s : Nat → Nat} {v v' a b a' b' : Nat} (h : IsDec c s v a b) (h' : IsDec c s v' a' b') (hv : v ≤ v') (hb : 0 < b') : b ≤ b' := by
  rcases h' with ⟨k', hk', h1', h2', rfl, rfl⟩ | ⟨h1', rfl, rfl⟩
  · rcases h with ⟨k, hk, h1, h2, rfl, rfl⟩ | ⟨h1, rfl, rfl⟩
    · rcases Nat.lt_or_ge k' k with h | h
      · have := S_mono c (show k' + 1 ≤ k by omega); omega
      · omega
    · omega
  · omega

theorem IsDec.pre {c s : Nat → Nat} {v v' a b a' b' : Nat} (h : IsDec c s v a b) (h' : IsDec c s v' a' b') (hb : 0 < b) (he : v / 2 ^ (15 - b) = v' / 2 ^ (15 - b)) : a' = a ∧ b' = b := by
  rcases h with ⟨k, hk, h1, h2, rfl, rfl⟩ | ⟨h1, rfl, rfl⟩
  · have e : 15 - (k + 1) = 14 - k := by omega
    rw [e] at he
    have g1 := code_ge (c := c) (show k ≤ 14 by omega) h1
    have g2 := (code_lt (c := c) (v := v) (show k ≤ 14 by omega)).2 h2
    rw [he] at g1 g2
    have g3 : S c k ≤ v' := by
      rw [S_eq c k (by omega)]
      exact (Nat.le_div_iff_mul_le (Nat.two_pow_pos _)).1 g1
    have g4 := (code_lt (c := c) (v := v') (show k ≤ 14 by omega)).1 g2
    have hd : IsDec c s v' (s (T c k + (v - S c k) / 2 ^ (14 - k))) (k + 1) := .inl ⟨k, hk, g3, g4, rfl, by rw [← code_sub (by omega), ← code_sub (by omega), he]⟩
    exact h'.unique hd
  · omega

end Go.Proofs.Qxb6617838a.Pre
