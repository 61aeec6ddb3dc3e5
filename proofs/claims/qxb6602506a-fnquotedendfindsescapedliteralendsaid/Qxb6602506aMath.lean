/-
  Seat b6602506a: the plain mathematics of quotedEnd: no Go in sight.
  f i: the text's byte i · run f j: how many backslashes stand right before j, counted from index 1 on · good f j: a quote behind an even run · scan f i k: of i .. i+k-1 the first good one, plus 1; else -1.
-/
namespace Go.Proofs.Qxb6602506a

def run (f : Nat → Nat) : Nat → Nat
  | 0 => 0
  | 1 => 0
  | j + 2 => if f (j + 1) = 92 then run f (j + 1) + 1 else 0

theorem run_hit (f : Nat → Nat) (j : Nat) (h1 : 1 ≤ j) (h : f j = 92) : run f (j + 1) = run f j + 1 := by
  obtain ⟨i, rfl⟩ : ∃ i, j = i + 1 := ⟨j - 1, by omega⟩
  show (if f (i + 1) = 92 then run f (i + 1) + 1 else 0) = _
  rw [if_pos h]
theorem run_miss (f : Nat → Nat) (j : Nat) (h : f j ≠ 92) : run f (j + 1) = 0 := by
  cases j with
  | zero => rfl
  | succ i =>
    show (if f (i + 1) = 92 then run f (i + 1) + 1 else 0) = _
    rw [if_neg h]
theorem run_le (f : Nat → Nat) (j : Nat) : run f j ≤ j := by
  induction j with
  | zero => exact Nat.le_refl _
  | succ i ih =>
    by_cases h1 : 1 ≤ i
    · by_cases h : f i = 92
      · rw [run_hit f i h1 h]; omega
      · rw [run_miss f i h]; omega
    · have : i = 0 := by omega
      subst this; exact Nat.zero_le _
theorem run_congr {f g : Nat → Nat} (j : Nat) (h : ∀ i, i < j → f i = g i) : run f j = run g j := by
  induction j with
  | zero => rfl
  | succ i ih =>
    by_cases h1 : 1 ≤ i
    · have hi := h i (by omega)
      by_cases h2 : f i = 92
      · rw [run_hit f i h1 h2, run_hit g i h1 (by omega), ih (fun k hk => h k (by omega))]
      · rw [run_miss f i h2, run_miss g i (by omega)]
    · have : i = 0 := by omega
      subst this; rfl

def good (f : Nat → Nat) (j : Nat) : Bool := decide (f j = 34) && decide (run f j % 2 = 0)

def scan (f : Nat → Nat) : Nat → Nat → Int
  | _, 0 => -1
  | i, k + 1 => if good f i = true then (i : Int) + 1 else scan f (i + 1) k

/-- What quotedEnd answers of a text of n bytes. -/
def qend (f : Nat → Nat) (n : Nat) : Int := scan f 1 (n - 1)

theorem scan_none (f : Nat → Nat) (i n : Nat) (h : n ≤ i) : scan f i (n - i) = -1 := by
  rw [show n - i = 0 by omega]; rfl
theorem scan_good (f : Nat → Nat) (i n : Nat) (hi : i < n) (h : good f i = true) : scan f i (n - i) = (i : Int) + 1 := by
  rw [show n - i = (n - i - 1) + 1 by omega]
  show (if good f i = true then (i : Int) + 1 else _) = _
  rw [if_pos h]
theorem scan_bad (f : Nat → Nat) (i n : Nat) (h : good f i = false) : scan f i (n - i) = scan f (i + 1) (n - (i + 1)) := by
  by_cases hi : i < n
  · rw [show n - i = (n - (i + 1)) + 1 by omega]
    show (if good f i = true then (i : Int) + 1 else _) = _
    rw [if_neg (by simp [h])]
  · rw [scan_none f i n (by omega), scan_none f (i + 1) n (by omega)]

/-- Past a backslash at an even place: two places on. -/
theorem scan_skip (f : Nat → Nat) (i n : Nat) (h1 : 1 ≤ i) (he : run f i % 2 = 0) (h : f i = 92) : scan f i (n - i) = scan f (i + 2) (n - (i + 2)) ∧ run f (i + 2) % 2 = 0 := by
  have hr := run_hit f i h1 h
  refine ⟨?_, ?_⟩
  · rw [scan_bad f i n (by simp [good, h]), scan_bad f (i + 1) n (by simp [good]; intro _; omega)]
  · by_cases h2 : f (i + 1) = 92
    · rw [run_hit f (i + 1) (by omega) h2]; omega
    · rw [run_miss f (i + 1) h2]
theorem scan_quote (f : Nat → Nat) (i n : Nat) (hi : i < n) (he : run f i % 2 = 0) (h : f i = 34) : scan f i (n - i) = (i : Int) + 1 :=
  scan_good f i n hi (by simp [good, h, he])
theorem scan_plain (f : Nat → Nat) (i n : Nat) (h : f i ≠ 92) (h' : f i ≠ 34) : scan f i (n - i) = scan f (i + 1) (n - (i + 1)) ∧ run f (i + 1) % 2 = 0 := by
  refine ⟨scan_bad f i n (by simp [good, h']), ?_⟩
  rw [run_miss f i h]

/-- Where it ends. -/
theorem scan_cases (f : Nat → Nat) (i k : Nat) : scan f i k = -1 ∨ ∃ j, i ≤ j ∧ j < i + k ∧ good f j = true ∧ scan f i k = (j : Int) + 1 := by
  induction k generalizing i with
  | zero => exact .inl rfl
  | succ k ih =>
    by_cases h : good f i = true
    · refine .inr ⟨i, by omega, by omega, h, ?_⟩
      show (if good f i = true then (i : Int) + 1 else _) = _
      rw [if_pos h]
    · have e : scan f i (k + 1) = scan f (i + 1) k := by
        show (if good f i = true then (i : Int) + 1 else _) = _
        rw [if_neg h]
      rw [e]
      rcases ih (i + 1) with h1 | ⟨j, h1, h2, h3, h4⟩
      · exact .inl h1
      · exact .inr ⟨j, by omega, by omega, h3, h4⟩

/-- Two texts that agree as far as the first goes: found there, found here; else behind it. -/
theorem scan_split (f g : Nat → Nat) (i k m : Nat) (h : ∀ j, j < i + k → good f j = good g j) : scan g i (k + m) = if scan f i k = -1 then scan g (i + k) m else scan f i k := by
  induction k generalizing i with
  | zero =>
    have e : scan f i 0 = -1 := rfl
    rw [if_pos e, Nat.zero_add, Nat.add_zero]
  | succ k ih =>
    have hi := h i (by omega)
    rw [show k + 1 + m = (k + m) + 1 by omega]
    show (if good g i = true then (i : Int) + 1 else scan g (i + 1) (k + m)) = if (if good f i = true then (i : Int) + 1 else scan f (i + 1) k) = -1 then _ else (if good f i = true then (i : Int) + 1 else scan f (i + 1) k)
    by_cases hg : good f i = true
    · rw [if_pos (by rw [← hi]; exact hg), if_pos hg, if_neg (by omega)]
    · rw [if_neg (by rw [← hi]; exact hg), if_neg hg, ih (i + 1) (fun j hj => h j (by omega)), show i + 1 + k = i + (k + 1) by omega]

theorem good_congr {f g : Nat → Nat} (j : Nat) (h : ∀ i, i ≤ j → f i = g i) : good f j = good g j := by
  unfold good
  rw [h j (Nat.le_refl _), run_congr j (fun i hi => h i (by omega))]

/-- The end, if found. -/
theorem qend_cases (f : Nat → Nat) (n : Nat) : qend f n = -1 ∨ ∃ j, 1 ≤ j ∧ j < n ∧ f j = 34 ∧ qend f n = (j : Int) + 1 := by
  rcases scan_cases f 1 (n - 1) with h | ⟨j, h1, h2, h3, h4⟩
  · exact .inl h
  · refine .inr ⟨j, h1, by omega, ?_, h4⟩
    simp [good] at h3
    exact h3.1

/-- A tail behind the text. -/
theorem qend_tail (f g : Nat → Nat) (n m : Nat) (h : ∀ i, i < n → f i = g i) : (qend f n = -1 → qend g (n + m) = -1 ∨ (n : Int) < qend g (n + m)) ∧ (qend f n ≠ -1 → qend g (n + m) = qend f n) := by
  by_cases hn : n = 0
  · subst hn
    refine ⟨fun _ => ?_, fun h => absurd rfl h⟩
    rcases qend_cases g (0 + m) with h1 | ⟨j, h1, h2, h3, h4⟩
    · exact .inl h1
    · right; rw [h4]; omega
  · have e := scan_split f g 1 (n - 1) m (fun j hj => good_congr j (fun i hi => h i (by omega)))
    rw [show n - 1 + m = n + m - 1 by omega, show 1 + (n - 1) = n by omega] at e
    refine ⟨fun h1 => ?_, fun h1 => ?_⟩
    · have e' : qend g (n + m) = scan g n m := by
        show scan g 1 (n + m - 1) = _
        rw [e]; exact if_pos h1
      rw [e']
      rcases scan_cases g n m with h2 | ⟨j, h2, h3, h4, h5⟩
      · exact .inl h2
      · right; rw [h5]; omega
    · show scan g 1 (n + m - 1) = _
      rw [e]; exact if_neg h1

/-- Cut at the end: found again. -/
theorem qend_cut (f g : Nat → Nat) (n j : Nat) (hj : qend f n = (j : Int) + 1) (hjn : j < n) (h1 : 1 ≤ j) (h : ∀ i, i < j + 1 → f i = g i) : qend g (j + 1) = (j : Int) + 1 := by
  have t := qend_tail g f (j + 1) (n - (j + 1)) (fun i hi => (h i hi).symm)
  rw [show j + 1 + (n - (j + 1)) = n by omega] at t
  by_cases hq : qend g (j + 1) = -1
  · rcases t.1 hq with h2 | h2
    · omega
    · rw [hj] at h2; omega
  · rw [← t.2 hq, hj]

end Go.Proofs.Qxb6602506a
