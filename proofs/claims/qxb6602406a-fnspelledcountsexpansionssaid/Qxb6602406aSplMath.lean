/-
  Seat b6602406a: how many patterns a list of tokens spells, and their characters: plain numbers.
-/
import Derived.Test.Qxb6602406aSplMem
namespace Go.Proofs.Qxb6602406a.Spell

/-! ### Capped numbers -/
theorem cap_mul0 (m a b : Nat) : min m (a * b) = min m (min m a * min m b) := by
  by_cases hm : m = 0
  · subst hm; simp
  · by_cases ha : a = 0
    · subst ha; simp
    · by_cases hb : b = 0
      · subst hb; simp
      · by_cases h1 : m ≤ a
        · have e1 : min m a = m := by omega
          have h2 : m * 1 ≤ m * min m b := Nat.mul_le_mul_left m (by omega)
          have h3 : m * 1 ≤ a * b := Nat.mul_le_mul h1 (by omega)
          rw [e1]
          omega
        · by_cases h2 : m ≤ b
          · have e1 : min m b = m := by omega
            have h3 : 1 * m ≤ min m a * m := Nat.mul_le_mul_right m (by omega)
            have h4 : 1 * m ≤ a * b := Nat.mul_le_mul (by omega) h2
            rw [e1]
            omega
          · have e1 : min m a = a := by omega
            have e2 : min m b = b := by omega
            rw [e1, e2]
theorem cap_mul {m a b A B : Nat} (ha : min m a = min m A) (hb : min m b = min m B) : min m (a * b) = min m (A * B) := by
  rw [cap_mul0 m a b, ha, hb, ← cap_mul0]
theorem cap_add {m a b A B : Nat} (ha : min m a = min m A) (hb : min m b = min m B) : min m (a + b) = min m (A + B) := by omega
theorem cap_idem (m a : Nat) : min m (min m a) = min m a := by omega

/-! ### The counts -/
def sumUp (f : Nat → Nat) : Nat → Nat
  | 0 => 0
  | k + 1 => sumUp f k + f k
def patUp (P : Nat → Nat) : Nat → Nat
  | 0 => 1
  | i + 1 => patUp P i * P i
def chrUp (P C : Nat → Nat) : Nat → Nat
  | 0 => 0
  | i + 1 => chrUp P C i * P i + C i * patUp P i
/-- The product of the last r of n. -/
def sufUp (P : Nat → Nat) (n : Nat) : Nat → Nat
  | 0 => 1
  | r + 1 => P (n - (r + 1)) * sufUp P n r
/-- The closed form's sum. -/
def clo (P C : Nat → Nat) (n : Nat) : Nat → Nat
  | 0 => 0
  | i + 1 => clo P C n i + C i * (patUp P i * sufUp P n (n - (i + 1)))

theorem clo_chr (P C : Nat → Nat) (n : Nat) : ∀ i, i ≤ n → clo P C n i = chrUp P C i * sufUp P n (n - i) := by
  intro i
  induction i with
  | zero => intro _; simp [clo, chrUp]
  | succ i ih =>
    intro hi
    have hs : sufUp P n (n - i) = P i * sufUp P n (n - (i + 1)) := by
      have e : n - i = (n - (i + 1)) + 1 := by omega
      rw [e, sufUp]
      have e2 : n - (n - (i + 1) + 1) = i := by omega
      rw [e2]
    rw [clo, ih (by omega), hs, chrUp, Nat.add_mul, Nat.mul_assoc, Nat.mul_assoc]
theorem clo_all (P C : Nat → Nat) (n : Nat) : clo P C n n = chrUp P C n := by
  rw [clo_chr P C n n (Nat.le_refl _), Nat.sub_self, sufUp, Nat.mul_one]

/-- Patterns of one token; s: of its options. -/
def np (s : Nat → Nat) (kind : Int) (m : Nat) : Nat := if kind = 3 then 2 else if kind = 4 then (if m = 0 then 1 else sumUp s m) else 1
/-- Characters of one token. -/
def nc (s : Nat → Nat) (kind : Int) (m : Nat) : Nat := if kind = 3 then 2 else if kind = 4 then sumUp s m else 1

/-- Patterns and characters of a list of tokens. -/
def cnt : Nat → Tree → Nat × Nat
  | 0, _ => (1, 0)
  | d + 1, T => (patUp (fun i => np (fun k => (cnt d (T.sub i k)).1) (T.K i) (T.M i)) T.N, chrUp (fun i => np (fun k => (cnt d (T.sub i k)).1) (T.K i) (T.M i)) (fun i => nc (fun k => (cnt d (T.sub i k)).2) (T.K i) (T.M i)) T.N)

def Pn (d : Nat) (T : Tree) (i : Nat) : Nat := np (fun k => (cnt d (T.sub i k)).1) (T.K i) (T.M i)
def Cn (d : Nat) (T : Tree) (i : Nat) : Nat := nc (fun k => (cnt d (T.sub i k)).2) (T.K i) (T.M i)
theorem cnt_succ (d : Nat) (T : Tree) : cnt (d + 1) T = (patUp (Pn d T) T.N, chrUp (Pn d T) (Cn d T) T.N) := rfl

end Go.Proofs.Qxb6602406a.Spell
