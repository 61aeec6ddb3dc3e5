/-
  Seat b6602506a: the plain mathematics of an escaped literal.
-/
import Derived.Test.Qxb6602506aMath
namespace Go.Proofs.Qxb6602506a

/-- A byte, escaped. -/
def escB (c : Nat) : List Nat := if c = 34 ∨ c = 92 then [92, c] else [c]

theorem getD_shift (l : List Nat) (m t : Nat) : (l.drop m).getD t 0 = l.getD (m + t) 0 := by
  simp [List.getD, List.getElem?_drop]

/-- From an even place on, an escaped literal and its quote: the quote is the end. -/
theorem scan_esc (f : Nat → Nat) (n : Nat) : ∀ (cs : List Nat) (i : Nat), 1 ≤ i → run f i % 2 = 0 → (∀ t, t < (cs.flatMap escB).length → f (i + t) = (cs.flatMap escB).getD t 0) → f (i + (cs.flatMap escB).length) = 34 →
    i + (cs.flatMap escB).length < n → scan f i (n - i) = (i : Int) + ((cs.flatMap escB).length : Int) + 1
  | [], i, h1, he, _, hq, hn => by
    simp only [List.flatMap_nil, List.length_nil, Nat.add_zero] at hq hn ⊢
    rw [scan_quote f i n hn he hq]
    simp
  | c :: cs, i, h1, he, hf, hq, hn => by
    simp only [List.flatMap_cons, List.length_append] at hf hq hn ⊢
    by_cases hc : c = 34 ∨ c = 92
    · have el : escB c = [92, c] := by simp [escB, hc]
      rw [el] at hf hq hn ⊢
      simp only [List.length_cons, List.length_nil] at hf hq hn ⊢
      have h0 : f i = 92 := by have := hf 0 (by omega); simpa using this
      obtain ⟨e1, e2⟩ := scan_skip f i n h1 he h0
      rw [e1, scan_esc f n cs (i + 2) (by omega) e2 (fun t ht => by
        have := hf (2 + t) (by omega)
        rw [show i + (2 + t) = i + 2 + t by omega] at this
        rw [this, ← getD_shift]
        simp) (by rw [show i + 2 + (cs.flatMap escB).length = i + (0 + 1 + 1 + (cs.flatMap escB).length) by omega]; exact hq) (by omega)]
      omega
    · have el : escB c = [c] := by simp [escB, hc]
      rw [el] at hf hq hn ⊢
      simp only [List.length_cons, List.length_nil] at hf hq hn ⊢
      have h0 : f i = c := by have := hf 0 (by omega); simpa using this
      obtain ⟨e1, e2⟩ := scan_plain f i n (by rw [h0]; omega) (by rw [h0]; omega)
      rw [e1, scan_esc f n cs (i + 1) (by omega) e2 (fun t ht => by
        have := hf (1 + t) (by omega)
        rw [show i + (1 + t) = i + 1 + t by omega] at this
        rw [this, ← getD_shift]
        simp) (by rw [show i + 1 + (cs.flatMap escB).length = i + (0 + 1 + (cs.flatMap escB).length) by omega]; exact hq) (by omega)]
      omega

/-- The whole text: an opening byte, the literal, the quote, a tail. -/
theorem qend_esc (f : Nat → Nat) (o : Nat) (cs tl : List Nat) (hf : ∀ t, t < (o :: (cs.flatMap escB ++ 34 :: tl)).length → f t = (o :: (cs.flatMap escB ++ 34 :: tl)).getD t 0) :
    qend f (o :: (cs.flatMap escB ++ 34 :: tl)).length = ((cs.flatMap escB).length : Int) + 2 := by
  have hl : (o :: (cs.flatMap escB ++ 34 :: tl)).length = (cs.flatMap escB).length + tl.length + 2 := by simp; omega
  have h := scan_esc f (o :: (cs.flatMap escB ++ 34 :: tl)).length cs 1 (Nat.le_refl _) rfl (fun t ht => by
    rw [hf (1 + t) (by omega), ← getD_shift]
    simp only [List.drop_succ_cons, List.drop_zero]
    simp only [List.getD]
    rw [List.getElem?_append_left ht]) (by
    rw [hf _ (by omega), ← getD_shift]
    simp only [List.drop_succ_cons, List.drop_zero]
    simp [List.getD]) (by omega)
  show scan f 1 _ = _
  rw [h]
  omega

end Go.Proofs.Qxb6602506a
