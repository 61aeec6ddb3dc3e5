/-
  Seat b6602406a: the weights while they are counted.
-/
import Derived.Test.Qxb6602406aAncMap
namespace Go.Proofs.Qxb6602406a
open Go.RowKit

def perx (x : ByteArray) : Nat := per (byt x) x.size
/-- The three cells of a weight. -/
def wrec (c p t : Nat) : Nat → Value
  | 0 => .int .i64 (c : Int)
  | 1 => .int .i64 (p : Int)
  | _ => .int .i64 (t : Int)

/-- Has run x been met in the first i texts, or in the first k pieces of text i? -/
def Seen (D : Desc) (i k : Nat) (x : ByteArray) : Prop := x.size ≠ 0 ∧ ((∃ i', i' < i ∧ has (D.S i') x (D.m i') = true) ∨ has (D.S i) x k = true)

structure Wt (w : World) (M c : Nat) (D : Desc) (i k : Nat) (g : ByteArray → Option Nat) (cw ct : ByteArray → Nat) (P : ByteArray → Prop) : Prop where
  map : MapIs w M c g
  recs : ∀ x b, g x = some b → M < b ∧ w.rowIs b 89 3 (wrec (cw x) (perx x) (ct x))
  inj : ∀ x y b, g x = some b → g y = some b → x = y
  seen : ∀ x, (∃ b, g x = some b) ↔ P x
  cwv : ∀ x, P x → cw x = chkUp D x i + if (!D.ex i && has (D.S i) x k) = true then 1 + szUp (D.S i) (D.m i) - x.size else 0
  ctv : ∀ x, P x → (has (D.S i) x k = true → ct x = i + 1) ∧ (has (D.S i) x k = false → ct x ≤ i)

section
variable {w w' : World} {M c : Nat} {D : Desc} {i k : Nat} {g : ByteArray → Option Nat} {cw ct : ByteArray → Nat} {P : ByteArray → Prop}

theorem Wt.start (w : World) (D : Desc) : Wt (w.alloc (.map #[] 0)) w.heap.size 0 D 0 0 (fun _ => none) (fun _ => 0) (fun _ => 0) (Seen D 0 0) := by
  have hno : ∀ x, ¬ Seen D 0 0 x := by
    rintro x ⟨_, ⟨i', h, _⟩ | h⟩
    · omega
    · simp [has] at h
  exact ⟨MapIs.made w, fun x b h => (by cases h), fun x y b h => (by cases h), fun x => ⟨fun ⟨b, h⟩ => (by cases h), fun h => absurd h (hno x)⟩, fun x h => absurd h (hno x), fun x h => absurd h (hno x)⟩

theorem Wt.below (h : Wt w M c D i k g cw ct P) (hb : Below w.heap.size w w') : Wt w' M c D i k g cw ct P :=
  ⟨h.map.below hb, fun x b hx => ⟨(h.recs x b hx).1, (h.recs x b hx).2.of_block (hb.block _ (h.recs x b hx).2.lt)⟩, h.inj, h.seen, h.cwv, h.ctv⟩

theorem Wt.congr {k' : Nat} {P' : ByteArray → Prop} (h : Wt w M c D i k g cw ct P) (hP : ∀ x, P x ↔ P' x) (hh : ∀ x, P x → has (D.S i) x k' = has (D.S i) x k) : Wt w M c D i k' g cw ct P' :=
  ⟨h.map, h.recs, h.inj, fun x => (h.seen x).trans (hP x), fun x hx => by rw [hh x ((hP x).2 hx)]; exact h.cwv x ((hP x).2 hx), fun x hx => by rw [hh x ((hP x).2 hx)]; exact h.ctv x ((hP x).2 hx)⟩

theorem eqb_false {a b : ByteArray} (h : a ≠ b) : eqb a b = false := by
  cases hb : eqb a b with
  | false => rfl
  | true => exact absurd ((eqb_iff a b).1 hb) h

/-- An empty piece is passed over. -/
theorem Wt.skip (h : Wt w M c D i k g cw ct (Seen D i k)) (h0 : (D.S i k).size = 0) : Wt w M c D i (k + 1) g cw ct (Seen D i (k + 1)) := by
  have hh : ∀ x : ByteArray, x.size ≠ 0 → has (D.S i) x (k + 1) = has (D.S i) x k := by
    intro x hx
    rw [has, eqb_false (by intro e; rw [e] at h0; exact hx h0), Bool.or_false]
  refine h.congr (fun x => ?_) (fun x hx => hh x hx.1)
  constructor
  · rintro ⟨h1, h2⟩; exact ⟨h1, by rw [hh x h1]; exact h2⟩
  · rintro ⟨h1, h2⟩; exact ⟨h1, by rw [hh x h1] at h2; exact h2⟩

theorem seen_succ (h0 : (D.S i k).size ≠ 0) (x : ByteArray) : Seen D i (k + 1) x ↔ Seen D i k x ∨ x = D.S i k := by
  constructor
  · rintro ⟨h1, h2 | h2⟩
    · exact .inl ⟨h1, .inl h2⟩
    · rw [has, Bool.or_eq_true] at h2
      rcases h2 with h2 | h2
      · exact .inl ⟨h1, .inr h2⟩
      · exact .inr ((eqb_iff _ _).1 h2).symm
  · rintro (⟨h1, h2 | h2⟩ | rfl)
    · exact ⟨h1, .inl h2⟩
    · exact ⟨h1, .inr (by rw [has, h2]; rfl)⟩
    · exact ⟨h0, .inr (by rw [has, (eqb_iff _ _).2 rfl]; simp)⟩

/-- A run that the text held before is passed over. -/
theorem Wt.again (h : Wt w M c D i k g cw ct (Seen D i k)) (h0 : (D.S i k).size ≠ 0) (hh : has (D.S i) (D.S i k) k = true) : Wt w M c D i (k + 1) g cw ct (Seen D i (k + 1)) := by
  have h2 : ∀ x : ByteArray, has (D.S i) x (k + 1) = has (D.S i) x k := by
    intro x
    rw [has]
    by_cases e : D.S i k = x
    · rw [← e, hh]; rfl
    · rw [eqb_false e, Bool.or_false]
  refine h.congr (fun x => ?_) (fun x _ => h2 x)
  rw [seen_succ h0]
  constructor
  · exact fun h => .inl h
  · rintro (h | rfl)
    · exact h
    · exact ⟨h0, .inr hh⟩

theorem chk_zero (D : Desc) (x : ByteArray) (i : Nat) (h : ∀ i', i' < i → has (D.S i') x (D.m i') = false) : chkUp D x i = 0 := by
  induction i with
  | zero => rfl
  | succ i ih => rw [chkUp, ih (fun j hj => h j (by omega)), h i (by omega)]; simp

/-- A run that is met for the first time gets a weight of its own. -/
theorem Wt.add {b : Nat} (h : Wt w M c D i k g cw ct P) (x0 : ByteArray) (hP : ∀ x, P x ↔ Seen D i k x) (h0 : x0.size ≠ 0) (hx : ¬ P x0) (hb : ∀ x b', g x = some b' → b' ≠ b) (hMb : M < b)
    (hmap : MapIs w' M (c + 1) (fun z => if z = x0 then some b else g z)) (hrec : w'.rowIs b 89 3 (wrec 0 (perx x0) 0)) (hkeep : ∀ b', b' < w.heap.size → b' ≠ M → w'.heap[b']? = w.heap[b']?) :
    Wt w' M (c + 1) D i k (fun z => if z = x0 then some b else g z) (fun z => if z = x0 then 0 else cw z) (fun z => if z = x0 then 0 else ct z) (fun x => P x ∨ x = x0) := by
  have hno : has (D.S i) x0 k = false := by
    cases hh : has (D.S i) x0 k with
    | false => rfl
    | true => exact absurd ((hP x0).2 ⟨h0, .inr hh⟩) hx
  have hno' : ∀ i', i' < i → has (D.S i') x0 (D.m i') = false := by
    intro i' hi
    cases hh : has (D.S i') x0 (D.m i') with
    | false => rfl
    | true => exact absurd ((hP x0).2 ⟨h0, .inl ⟨i', hi, hh⟩⟩) hx
  refine ⟨hmap, fun x b' hxb => ?_, fun x y b' hxb hyb => ?_, fun x => ?_, fun x hxP => ?_, fun x hxP => ?_⟩
  · by_cases e : x = x0
    · simp only [if_pos e] at hxb ⊢
      injection hxb with hxb
      subst hxb
      rw [e]
      exact ⟨hMb, hrec⟩
    · simp only [if_neg e] at hxb ⊢
      obtain ⟨r1, r2⟩ := h.recs x b' hxb
      exact ⟨r1, r2.of_block (hkeep b' r2.lt (by omega))⟩
  · by_cases e : x = x0
    · by_cases e' : y = x0
      · rw [e, e']
      · simp only [if_pos e] at hxb
        simp only [if_neg e'] at hyb
        injection hxb with hxb
        exact absurd hxb.symm (hb y b' hyb)
    · by_cases e' : y = x0
      · simp only [if_neg e] at hxb
        simp only [if_pos e'] at hyb
        injection hyb with hyb
        exact absurd hyb.symm (hb x b' hxb)
      · simp only [if_neg e] at hxb
        simp only [if_neg e'] at hyb
        exact h.inj x y b' hxb hyb
  · by_cases e : x = x0
    · simp only [if_pos e]
      exact ⟨fun _ => .inr e, fun _ => ⟨b, rfl⟩⟩
    · simp only [if_neg e]
      rw [h.seen x]
      exact ⟨fun hp => .inl hp, fun hp => hp.elim id (fun e' => absurd e' e)⟩
  · by_cases e : x = x0
    · simp only [if_pos e]
      rw [e, chk_zero D x0 i hno', hno]
      simp
    · simp only [if_neg e]
      exact h.cwv x (hxP.elim id (fun e' => absurd e' e))
  · by_cases e : x = x0
    · simp only [if_pos e]
      rw [e]
      exact ⟨fun hh => (by rw [hno] at hh; cases hh), fun _ => Nat.zero_le _⟩
    · simp only [if_neg e]
      exact h.ctv x (hxP.elim id (fun e' => absurd e' e))

/-- A run that the text had not held yet is counted. -/
theorem Wt.count {b u : Nat} (h : Wt w M c D i k g cw ct P) (hP : ∀ x, P x ↔ Seen D i k x ∨ x = D.S i k) (h0 : (D.S i k).size ≠ 0) (hg : g (D.S i k) = some b) (hh : has (D.S i) (D.S i k) k = false)
    (hu : u = cw (D.S i k) + if D.ex i = true then 0 else 1 + szUp (D.S i) (D.m i) - (D.S i k).size)
    (hrec : w'.rowIs b 89 3 (wrec u (perx (D.S i k)) (i + 1))) (hkeep : ∀ b', b' < w.heap.size → b' ≠ b → w'.heap[b']? = w.heap[b']?) :
    Wt w' M c D i (k + 1) g (fun z => if z = D.S i k then u else cw z) (fun z => if z = D.S i k then i + 1 else ct z) (Seen D i (k + 1)) := by
  have hMb := (h.recs _ _ hg).1
  have hother : ∀ x, x ≠ D.S i k → has (D.S i) x (k + 1) = has (D.S i) x k := by
    intro x e
    rw [has, eqb_false (fun e' => e e'.symm), Bool.or_false]
  have hself : has (D.S i) (D.S i k) (k + 1) = true := by rw [has, (eqb_iff _ _).2 rfl]; simp
  refine ⟨h.map.block (hkeep M h.map.lt (by omega)), fun x b' hxb => ?_, h.inj, fun x => ?_, fun x hx => ?_, fun x hx => ?_⟩
  · by_cases e : x = D.S i k
    · simp only [if_pos e]
      rw [e] at hxb ⊢
      rw [hg] at hxb
      injection hxb with hxb
      subst hxb
      exact ⟨hMb, hrec⟩
    · simp only [if_neg e]
      obtain ⟨r1, r2⟩ := h.recs x b' hxb
      refine ⟨r1, r2.of_block (hkeep b' r2.lt fun eb => e ?_)⟩
      rw [eb] at hxb
      exact h.inj x _ b hxb hg
  · rw [h.seen x, hP x, seen_succ h0]
  · by_cases e : x = D.S i k
    · simp only [if_pos e]
      rw [e, hu, h.cwv _ ((hP _).2 (.inr rfl)), hself, hh]
      cases D.ex i <;> simp
    · simp only [if_neg e]
      rw [hother x e]
      exact h.cwv x ((hP x).2 (((seen_succ h0 x).1 hx)))
  · by_cases e : x = D.S i k
    · simp only [if_pos e]
      exact ⟨fun _ => trivial, fun hf => (by rw [e, hself] at hf; cases hf)⟩
    · simp only [if_neg e]
      rw [hother x e]
      exact h.ctv x ((hP x).2 ((seen_succ h0 x).1 hx))

/-- On to the next text. -/
theorem Wt.next (h : Wt w M c D i (D.m i) g cw ct (Seen D i (D.m i))) : Wt w M c D (i + 1) 0 g cw ct (Seen D (i + 1) 0) := by
  have hP : ∀ x, Seen D i (D.m i) x ↔ Seen D (i + 1) 0 x := by
    intro x
    constructor
    · rintro ⟨h1, ⟨i', h2, h3⟩ | h2⟩
      · exact ⟨h1, .inl ⟨i', by omega, h3⟩⟩
      · exact ⟨h1, .inl ⟨i, by omega, h2⟩⟩
    · rintro ⟨h1, ⟨i', h2, h3⟩ | h2⟩
      · by_cases e : i' = i
        · subst e; exact ⟨h1, .inr h3⟩
        · exact ⟨h1, .inl ⟨i', by omega, h3⟩⟩
      · simp [has] at h2
  refine ⟨h.map, h.recs, h.inj, fun x => (h.seen x).trans (hP x), fun x hx => ?_, fun x hx => ?_⟩
  · rw [h.cwv x ((hP x).2 hx)]
    simp [chkUp, has]
  · refine ⟨fun hf => by simp [has] at hf, fun _ => ?_⟩
    have := h.ctv x ((hP x).2 hx)
    cases hh : has (D.S i) x (D.m i) with
    | true => have := this.1 hh; omega
    | false => have := this.2 hh; omega
end

end Go.Proofs.Qxb6602406a
