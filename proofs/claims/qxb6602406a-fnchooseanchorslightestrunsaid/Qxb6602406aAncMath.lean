/-
  Seat b6602406a: the plain mathematics of periods and weights (no Go in sight).
-/
namespace Go.Proofs.Qxb6602406a

/-! ### Periods -/
def IsP (f : Nat → Nat) (n p : Nat) : Prop := ∀ t, t + p < n → f t = f (t + p)

def perB (f : Nat → Nat) (p : Nat) : Nat → Bool
  | 0 => true
  | k + 1 => perB f p k && decide (f k = f (k + p))
theorem perB_iff (f : Nat → Nat) (p k : Nat) : perB f p k = true ↔ ∀ t, t < k → f t = f (t + p) := by
  induction k with
  | zero => simp [perB]
  | succ k ih =>
    rw [perB, Bool.and_eq_true, ih, decide_eq_true_eq]
    constructor
    · rintro ⟨h1, h2⟩ t ht
      by_cases e : t = k
      · subst e; exact h2
      · exact h1 t (by omega)
    · intro h; exact ⟨fun t ht => h t (by omega), h k (by omega)⟩
theorem isP_iff (f : Nat → Nat) (n p : Nat) : IsP f n p ↔ perB f p (n - p) = true := by
  rw [perB_iff]
  exact ⟨fun h t ht => h t (by omega), fun h t ht => h t (by omega)⟩

/-- The least period among p, p + 1 ..; at most k steps. -/
def lp (f : Nat → Nat) (n : Nat) : Nat → Nat → Nat
  | 0, p => p
  | k + 1, p => if perB f p (n - p) = true then p else lp f n k (p + 1)
/-- The period of a run of n bytes. -/
def per (f : Nat → Nat) (n : Nat) : Nat := lp f n (n - 1) 1

theorem lp_spec (f : Nat → Nat) (n : Nat) : ∀ k p, 1 ≤ p → p + k = n → IsP f n (lp f n k p) ∧ p ≤ lp f n k p ∧ lp f n k p ≤ n ∧ ∀ q, p ≤ q → q < lp f n k p → ¬ IsP f n q := by
  intro k
  induction k with
  | zero => intro p h1 h2; exact ⟨fun t ht => by simp [lp] at ht; omega, Nat.le_refl _, by simp [lp]; omega, fun q h3 h4 => by simp [lp] at h4; omega⟩
  | succ k ih =>
    intro p h1 h2
    by_cases h : perB f p (n - p) = true
    · have e : lp f n (k + 1) p = p := by simp [lp, h]
      rw [e]
      exact ⟨(isP_iff f n p).2 h, Nat.le_refl _, by omega, fun q h3 h4 => by omega⟩
    · have e : lp f n (k + 1) p = lp f n k (p + 1) := by simp [lp, h]
      rw [e]
      obtain ⟨i1, i2, i3, i4⟩ := ih (p + 1) (by omega) (by omega)
      refine ⟨i1, by omega, i3, fun q h3 h4 => ?_⟩
      by_cases e2 : q = p
      · subst e2; rw [isP_iff]; exact h
      · exact i4 q (by omega) h4

theorem per_spec (f : Nat → Nat) (n : Nat) (hn : 1 ≤ n) : IsP f n (per f n) ∧ 1 ≤ per f n ∧ per f n ≤ n ∧ ∀ q, 1 ≤ q → q < per f n → ¬ IsP f n q :=
  lp_spec f n (n - 1) 1 (Nat.le_refl _) (by omega)

theorem per_eq (f : Nat → Nat) (n p : Nat) (hn : 1 ≤ n) (h1 : 1 ≤ p) (h : IsP f n p) (hl : ∀ q, 1 ≤ q → q < p → ¬ IsP f n q) : per f n = p := by
  obtain ⟨a1, a2, a3, a4⟩ := per_spec f n hn
  by_cases e : per f n < p
  · exact absurd a1 (hl _ a2 e)
  · by_cases e2 : p < per f n
    · exact absurd h (a4 p h1 e2)
    · omega

/-! ### Borders (the failure function) -/
/-- k is the length of a proper border of the first i + 1 bytes. -/
def IsB (f : Nat → Nat) (i k : Nat) : Prop := k ≤ i ∧ ∀ t, t < k → f t = f (i + 1 - k + t)
/-- .. and the longest one. -/
def LB (f : Nat → Nat) (i k : Nat) : Prop := IsB f i k ∧ ∀ k', IsB f i k' → k' ≤ k

theorem isB_zero (f : Nat → Nat) (i : Nat) : IsB f i 0 := ⟨Nat.zero_le _, fun t ht => by omega⟩
theorem lb_zero (f : Nat → Nat) : LB f 0 0 := ⟨isB_zero f 0, fun _ h => h.1⟩

/-- A border of i + 1 bytes, but for its last byte, is one of i bytes. -/
theorem isB_pred (f : Nat → Nat) (i k : Nat) (h : IsB f (i + 1) (k + 1)) : IsB f i k ∧ f k = f (i + 1) := by
  refine ⟨⟨by have := h.1; omega, fun t ht => ?_⟩, ?_⟩
  · have := h.2 t (by omega)
    rw [this]; congr 1; have := h.1; omega
  · have := h.2 k (by omega)
    rw [this]; congr 1; have := h.1; omega
theorem isB_succ (f : Nat → Nat) (i k : Nat) (h : IsB f i k) (he : f k = f (i + 1)) : IsB f (i + 1) (k + 1) := by
  refine ⟨by have := h.1; omega, fun t ht => ?_⟩
  by_cases e : t = k
  · subst e; rw [he]; congr 1; have := h.1; omega
  · rw [h.2 t (by omega)]; congr 1; have := h.1; omega
/-- The border of a border. -/
theorem isB_trans (f : Nat → Nat) (i k j : Nat) (h : IsB f i (k + 1)) (h2 : IsB f k j) : IsB f i j := by
  have h1 := h.1
  have h3 := h2.1
  refine ⟨by omega, fun t ht => ?_⟩
  rw [h2.2 t ht, h.2 (k + 1 - j + t) (by omega)]
  congr 1; omega
/-- A shorter border is a border of the longer. -/
theorem isB_of (f : Nat → Nat) (i k j : Nat) (h : IsB f i (k + 1)) (h2 : IsB f i j) (hj : j ≤ k) : IsB f k j := by
  have h1 := h.1
  refine ⟨hj, fun t ht => ?_⟩
  rw [h2.2 t ht, h.2 (k + 1 - j + t) (by omega)]
  congr 1; omega

/-- A candidate in the search for the border of i + 2 bytes. -/
def Cand (f : Nat → Nat) (i k : Nat) : Prop := IsB f i k ∧ ∀ k', IsB f (i + 1) (k' + 1) → k' ≤ k
theorem cand_start (f : Nat → Nat) (i k : Nat) (h : LB f i k) : Cand f i k := ⟨h.1, fun k' h' => h.2 k' (isB_pred f i k' h').1⟩
theorem cand_next (f : Nat → Nat) (i k j : Nat) (h : Cand f i (k + 1)) (hne : f (i + 1) ≠ f (k + 1)) (hj : LB f k j) : Cand f i j := by
  refine ⟨isB_trans f i k j h.1 hj.1, fun k' h' => ?_⟩
  have h1 := h.2 k' h'
  have h2 := isB_pred f i k' h'
  have h3 : k' ≠ k + 1 := fun e => by subst e; exact hne h2.2.symm
  exact hj.2 k' (isB_of f i k k' h.1 h2.1 (by omega))
theorem cand_hit (f : Nat → Nat) (i k : Nat) (h : Cand f i k) (he : f (i + 1) = f k) : LB f (i + 1) (k + 1) := by
  refine ⟨isB_succ f i k h.1 he.symm, fun k' h' => ?_⟩
  cases k' with
  | zero => omega
  | succ k' => have := h.2 k' h'; omega
theorem cand_miss (f : Nat → Nat) (i : Nat) (h : Cand f i 0) (hne : f (i + 1) ≠ f 0) : LB f (i + 1) 0 := by
  refine ⟨isB_zero f (i + 1), fun k' h' => ?_⟩
  cases k' with
  | zero => omega
  | succ k' =>
    have h1 := h.2 k' h'
    have : k' = 0 := by omega
    subst this
    exact absurd (isB_pred f i 0 h').2.symm hne

/-- The period is the length less the longest border. -/
theorem per_border (f : Nat → Nat) (n k : Nat) (h : LB f n k) : per f (n + 1) = n + 1 - k := by
  have h1 := h.1.1
  refine per_eq f (n + 1) (n + 1 - k) (by omega) (by omega) (fun t ht => ?_) (fun q hq1 hq2 hp => ?_)
  · rw [h.1.2 t (by omega)]; congr 1; omega
  · have hb : IsB f n (n + 1 - q) := ⟨by omega, fun t ht => by
      rw [hp t (by omega)]; congr 1; omega⟩
    have := h.2 _ hb
    omega

/-! ### Weights: the lighter of two runs, by checks over period -/
theorem cross_lt (a b c p q r : Nat) (hr : 1 ≤ r) (h1 : a * q < b * p) (h2 : b * r ≤ c * q) : a * r < c * p := by
  have e1 : a * q * r < b * p * r := Nat.mul_lt_mul_of_pos_right h1 (by omega)
  have e2 : b * r * p ≤ c * q * p := Nat.mul_le_mul_right p h2
  have e3 : a * r * q < c * p * q := by
    calc a * r * q = a * q * r := by rw [Nat.mul_assoc, Nat.mul_comm r q, ← Nat.mul_assoc]
      _ < b * p * r := e1
      _ = b * r * p := by rw [Nat.mul_assoc, Nat.mul_comm p r, ← Nat.mul_assoc]
      _ ≤ c * q * p := e2
      _ = c * p * q := by rw [Nat.mul_assoc, Nat.mul_comm q p, ← Nat.mul_assoc]
  exact Nat.lt_of_mul_lt_mul_right e3
theorem cross_le (a b c p q r : Nat) (hq : 1 ≤ q) (h1 : a * q ≤ b * p) (h2 : b * r ≤ c * q) : a * r ≤ c * p := by
  have e1 : a * q * r ≤ b * p * r := Nat.mul_le_mul_right r h1
  have e2 : b * r * p ≤ c * q * p := Nat.mul_le_mul_right p h2
  have e3 : a * r * q ≤ c * p * q := by
    calc a * r * q = a * q * r := by rw [Nat.mul_assoc, Nat.mul_comm r q, ← Nat.mul_assoc]
      _ ≤ b * p * r := e1
      _ = b * r * p := by rw [Nat.mul_assoc, Nat.mul_comm p r, ← Nat.mul_assoc]
      _ ≤ c * q * p := e2
      _ = c * p * q := by rw [Nat.mul_assoc, Nat.mul_comm q p, ← Nat.mul_assoc]
  exact Nat.le_of_mul_le_mul_right e3 (by omega)
theorem cross_lt' (a b c p q r : Nat) (h1 : a * q ≤ b * p) (h2 : b * r < c * q) (hp : 1 ≤ p) : a * r < c * p := by
  have e1 : a * q * r ≤ b * p * r := Nat.mul_le_mul_right r h1
  have e2 : b * r * p < c * q * p := Nat.mul_lt_mul_of_pos_right h2 (by omega)
  have e3 : a * r * q < c * p * q := by
    calc a * r * q = a * q * r := by rw [Nat.mul_assoc, Nat.mul_comm r q, ← Nat.mul_assoc]
      _ ≤ b * p * r := e1
      _ = b * r * p := by rw [Nat.mul_assoc, Nat.mul_comm p r, ← Nat.mul_assoc]
      _ < c * q * p := e2
      _ = c * p * q := by rw [Nat.mul_assoc, Nat.mul_comm q p, ← Nat.mul_assoc]
  exact Nat.lt_of_mul_lt_mul_right e3

end Go.Proofs.Qxb6602406a
