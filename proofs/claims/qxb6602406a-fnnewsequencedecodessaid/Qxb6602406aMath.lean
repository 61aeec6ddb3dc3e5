/-
  Seat b6602406a: the plain mathematics of a compiled run (no Go in sight).
  z: the classes by their place · cnt z k c: how many of the first k are c · top z k: one more than the greatest of the first k (0 if all are negative).
-/
namespace Go.Proofs.Qxb6602406a

def cnt (z : Nat → Int) : Nat → Int → Nat
  | 0, _ => 0
  | k + 1, c => cnt z k c + if z k = c then 1 else 0

def top (z : Nat → Int) : Nat → Nat
  | 0 => 0
  | k + 1 => max (top z k) (z k + 1).toNat

theorem cnt_le (z : Nat → Int) (k : Nat) (c : Int) : cnt z k c ≤ k := by
  induction k with
  | zero => exact Nat.le_refl _
  | succ k ih => simp only [cnt]; split <;> omega

theorem cnt_mono (z : Nat → Int) (c : Int) {j k : Nat} (h : j ≤ k) : cnt z j c ≤ cnt z k c := by
  induction k with
  | zero => have : j = 0 := by omega
            subst this; exact Nat.le_refl _
  | succ k ih =>
    by_cases e : j = k + 1
    · subst e; exact Nat.le_refl _
    · have := ih (by omega); simp only [cnt]; omega

theorem cnt_succ_eq (z : Nat → Int) (k : Nat) : cnt z (k + 1) (z k) = cnt z k (z k) + 1 := by simp [cnt]
theorem cnt_succ_ne (z : Nat → Int) (k : Nat) (c : Int) (h : z k ≠ c) : cnt z (k + 1) c = cnt z k c := by simp [cnt, h]

theorem cnt_top (z : Nat → Int) (k : Nat) (c : Nat) (h : top z k ≤ c) : cnt z k c = 0 := by
  induction k with
  | zero => rfl
  | succ k ih =>
    simp only [top] at h
    have := ih (by omega)
    rw [cnt_succ_ne _ _ _ (by omega)]
    exact this

theorem top_neg (z : Nat → Int) (k : Nat) (h : z k < 0) : top z (k + 1) = top z k := by
  show max (top z k) (z k + 1).toNat = top z k
  omega
theorem top_lt (z : Nat → Int) (k : Nat) (h : z k < (top z k : Int)) : top z (k + 1) = top z k := by
  show max (top z k) (z k + 1).toNat = top z k
  omega
theorem top_ge (z : Nat → Int) (k c : Nat) (h : z k = c) (h' : top z k ≤ c) : top z (k + 1) = c + 1 := by
  show max (top z k) (z k + 1).toNat = c + 1
  omega
theorem top_le (z : Nat → Int) (n k M : Nat) (hk : k ≤ n) (h : ∀ t, t < n → z t ≤ M) : top z k ≤ M + 1 := by
  induction k with
  | zero => exact Nat.zero_le _
  | succ k ih =>
    have h1 := ih (by omega)
    have h2 := h k (by omega)
    show max (top z k) (z k + 1).toNat ≤ M + 1
    omega
theorem lt_top (z : Nat → Int) (n i : Nat) (hi : i < n) : z i < (top z n : Int) := by
  induction n with
  | zero => omega
  | succ n ih =>
    have e : top z (n + 1) = max (top z n) (z n + 1).toNat := rfl
    by_cases h : i = n
    · subst h; omega
    · have := ih (by omega); omega

/-- The count up to t, t running past the end. -/
theorem cnt_min_hit (z : Nat → Int) (n t c : Nat) (h : t < n) (hz : z t = c) : cnt z (min (t + 1) n) c = cnt z (min t n) c + 1 := by
  rw [Nat.min_eq_left (by omega), Nat.min_eq_left (by omega)]
  have := cnt_succ_eq z t
  rwa [hz] at this
theorem cnt_min_miss (z : Nat → Int) (n t c : Nat) (h : t < n) (hz : z t ≠ c) : cnt z (min (t + 1) n) c = cnt z (min t n) c := by
  rw [Nat.min_eq_left (by omega), Nat.min_eq_left (by omega), cnt_succ_ne z t c hz]
theorem cnt_min_past (z : Nat → Int) (n t c : Nat) (h : ¬ t < n) : cnt z (min (t + 1) n) c = cnt z (min t n) c := by
  rw [Nat.min_eq_right (by omega), Nat.min_eq_right (by omega)]
/-- Ranks order places. -/
theorem rank_lt (z : Nat → Int) (c : Int) {x y : Nat} (h : cnt z x c < cnt z y c) : x < y := by
  by_cases h' : x < y
  · exact h'
  · have := cnt_mono z c (show y ≤ x by omega); omega

/-- Is class c kept as a bit set? -/
def den (z : Nat → Int) (n W : Nat) (c : Nat) : Bool := decide (W ≤ cnt z n c)
/-- How many of the first c classes are. -/
def du (z : Nat → Int) (n W : Nat) : Nat → Nat
  | 0 => 0
  | c + 1 => du z n W c + if den z n W c then 1 else 0
/-- How many positions the first c classes list. -/
def sp (z : Nat → Int) (n W : Nat) : Nat → Nat
  | 0 => 0
  | c + 1 => sp z n W c + if den z n W c then 0 else cnt z n c
/-- How many positions the first c classes have. -/
def tot (z : Nat → Int) (n : Nat) : Nat → Nat
  | 0 => 0
  | c + 1 => tot z n c + cnt z n c

theorem tot_zero (z : Nat → Int) (K : Nat) : tot z 0 K = 0 := by
  induction K with
  | zero => rfl
  | succ K ih => simp [tot, ih, cnt]

theorem tot_succ (z : Nat → Int) (n K : Nat) : tot z (n + 1) K = tot z n K + if 0 ≤ z n ∧ z n < K then 1 else 0 := by
  induction K with
  | zero => simp [tot]
  | succ K ih =>
    simp only [tot, cnt, ih]
    by_cases h : z n = K
    · rw [if_neg (by omega), if_pos h, if_pos (by omega)]; omega
    · rw [if_neg h]
      by_cases h2 : 0 ≤ z n ∧ z n < K
      · rw [if_pos h2, if_pos (by omega)]; omega
      · rw [if_neg h2, if_neg (by omega)]; omega

theorem tot_le (z : Nat → Int) (n K : Nat) : tot z n K ≤ n := by
  induction n with
  | zero => rw [tot_zero]; exact Nat.le_refl _
  | succ n ih => rw [tot_succ]; split <;> omega

theorem du_sp (z : Nat → Int) (n W c : Nat) : du z n W c * W + sp z n W c ≤ tot z n c := by
  induction c with
  | zero => simp [du, sp, tot]
  | succ c ih =>
    simp only [du, sp, tot]
    by_cases h : den z n W c = true
    · rw [if_pos h, if_pos h, Nat.add_mul]
      have : W ≤ cnt z n c := by simpa [den] using h
      omega
    · rw [if_neg h, if_neg h]
      simp only [Nat.add_zero]
      omega

theorem du_sp_le (z : Nat → Int) (n W c : Nat) : du z n W c * W + sp z n W c ≤ n := Nat.le_trans (du_sp z n W c) (tot_le z n c)

theorem du_mono (z : Nat → Int) (n W : Nat) {c d : Nat} (h : c ≤ d) : du z n W c ≤ du z n W d := by
  induction d with
  | zero => have : c = 0 := by omega
            subst this; exact Nat.le_refl _
  | succ d ih =>
    by_cases e : c = d + 1
    · subst e; exact Nat.le_refl _
    · have := ih (by omega); simp only [du]; omega
theorem sp_mono (z : Nat → Int) (n W : Nat) {c d : Nat} (h : c ≤ d) : sp z n W c ≤ sp z n W d := by
  induction d with
  | zero => have : c = 0 := by omega
            subst this; exact Nat.le_refl _
  | succ d ih =>
    by_cases e : c = d + 1
    · subst e; exact Nat.le_refl _
    · have := ih (by omega); simp only [sp]; omega
theorem du_succ (z : Nat → Int) (n W c : Nat) (h : den z n W c = true) : du z n W (c + 1) = du z n W c + 1 := by simp [du, h]
theorem du_same (z : Nat → Int) (n W c : Nat) (h : den z n W c = false) : du z n W (c + 1) = du z n W c := by simp [du, h]
theorem sp_succ (z : Nat → Int) (n W c : Nat) (h : den z n W c = false) : sp z n W (c + 1) = sp z n W c + cnt z n c := by simp [sp, h]
theorem sp_same (z : Nat → Int) (n W c : Nat) (h : den z n W c = true) : sp z n W (c + 1) = sp z n W c := by simp [sp, h]
theorem du_lt (z : Nat → Int) (n W : Nat) {c d : Nat} (h : c < d) (hd : den z n W c = true) : du z n W c < du z n W d := by
  have := du_mono z n W (c := c + 1) (d := d) h
  rw [du_succ z n W c hd] at this
  omega
theorem sp_lt (z : Nat → Int) (n W : Nat) {c d : Nat} (h : c < d) (hd : den z n W c = false) : sp z n W c + cnt z n c ≤ sp z n W d := by
  have := sp_mono z n W (c := c + 1) (d := d) h
  rw [sp_succ z n W c hd] at this
  omega

/-- Where class c begins. -/
def frm (z : Nat → Int) (n W : Nat) (c : Nat) : Nat := if den z n W c then du z n W c * W else sp z n W c
/-- Where it ends, behind i rounds of the last loop. -/
def til (z : Nat → Int) (n W i : Nat) (c : Nat) : Nat := if den z n W c then du z n W c * W + W else sp z n W c + cnt z i c

/-- The bits of the first m places at which p says yes. -/
def bitsUpto (p : Nat → Bool) : Nat → Nat
  | 0 => 0
  | m + 1 => bitsUpto p m ||| (if p m then 2 ^ m else 0)
/-- Word x of the set of the places at which p says yes. -/
def word (p : Nat → Bool) (x : Nat) : Nat := bitsUpto (fun b => p (64 * x + b)) 64

theorem testBit_bitsUpto (p : Nat → Bool) (m b : Nat) : (bitsUpto p m).testBit b = (decide (b < m) && p b) := by
  induction m with
  | zero => simp [bitsUpto]
  | succ m ih =>
    rw [bitsUpto, Nat.testBit_or, ih]
    by_cases hp : p m = true
    · rw [if_pos hp, Nat.testBit_two_pow]
      by_cases hb : m = b
      · subst hb; simp [hp]
      · by_cases h2 : b < m
        · simp [hb, h2, show b < m + 1 by omega]
        · simp [hb, h2, show ¬ b < m + 1 by omega]
    · rw [if_neg hp]
      by_cases hb : m = b
      · subst hb; simp at hp; simp [hp]
      · by_cases h2 : b < m
        · simp [h2, show b < m + 1 by omega]
        · simp [h2, show ¬ b < m + 1 by omega]

theorem bitsUpto_lt (p : Nat → Bool) (m : Nat) : bitsUpto p m < 2 ^ m := by
  apply Nat.lt_pow_two_of_testBit
  intro i hi
  rw [testBit_bitsUpto]
  simp [show ¬ i < m by omega]

theorem word_lt (p : Nat → Bool) (x : Nat) : word p x < 18446744073709551616 := bitsUpto_lt _ 64

theorem testBit_word (p : Nat → Bool) (j : Nat) : (word p (j / 64)).testBit (j % 64) = p j := by
  rw [word, testBit_bitsUpto, show 64 * (j / 64) + j % 64 = j by omega]
  simp [Nat.mod_lt]

theorem word_congr {p q : Nat → Bool} (x : Nat) (h : ∀ j, j / 64 = x → p j = q j) : word p x = word q x := by
  apply Nat.eq_of_testBit_eq
  intro i
  rw [word, word, testBit_bitsUpto, testBit_bitsUpto]
  by_cases hi : i < 64
  · rw [h (64 * x + i) (by omega)]
  · simp [hi]

theorem word_none (x : Nat) (p : Nat → Bool) (h : ∀ j, p j = false) : word p x = 0 := by
  apply Nat.eq_of_testBit_eq
  intro i
  rw [word, testBit_bitsUpto, h]
  simp

/-- One place more. -/
theorem word_set {p q : Nat → Bool} (i : Nat) (h : ∀ j, q j = (p j || decide (j = i))) : word q (i / 64) = word p (i / 64) ||| 2 ^ (i % 64) := by
  apply Nat.eq_of_testBit_eq
  intro b
  rw [Nat.testBit_or, word, word, testBit_bitsUpto, testBit_bitsUpto, Nat.testBit_two_pow, h]
  by_cases hb : b < 64
  · by_cases e : 64 * (i / 64) + b = i
    · have : i % 64 = b := by omega
      simp [hb, e, this]
    · have : ¬ i % 64 = b := by omega
      simp [hb, e, this]
  · have : ¬ i % 64 = b := by omega
    simp [hb, this]
theorem word_other {p q : Nat → Bool} (i x : Nat) (hx : x ≠ i / 64) (h : ∀ j, q j = (p j || decide (j = i))) : word q x = word p x :=
  word_congr x fun j hj => by rw [h]; have : ¬ j = i := by (intro e; subst e; exact hx hj.symm)
                              simp [this]

end Go.Proofs.Qxb6602406a
