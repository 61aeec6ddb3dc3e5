/-
  Seat b6602406a: what chooseAnchors chooses, by plain facts; its memory in the second pass.
-/
import Derived.Test.Qxb6602406aAncChA
namespace Go.Proofs.Qxb6602406a
open Go.RowKit

/-- Piece a of text i is to be chosen over piece k. -/
def Better (D : Desc) (N i a k : Nat) : Prop :=
  chkUp D (D.S i a) N * perx (D.S i k) < chkUp D (D.S i k) N * perx (D.S i a) ∨
    (chkUp D (D.S i a) N * perx (D.S i k) = chkUp D (D.S i k) N * perx (D.S i a) ∧ ((D.S i k).size < (D.S i a).size ∨ ((D.S i k).size = (D.S i a).size ∧ a < k)))

theorem perx_pos {x : ByteArray} (h : x.size ≠ 0) : 1 ≤ perx x := (per_spec (byt x) x.size (by omega)).2.1
theorem perx_le {x : ByteArray} (h : x.size ≠ 0) : perx x ≤ x.size := (per_spec (byt x) x.size (by omega)).2.2.1

/-- What was chosen among the first q pieces. -/
def Cho (D : Desc) (N j q : Nat) (g : ByteArray → Option Nat) (v : Value) (A L B l0 b0 : Int) : Prop :=
  (v = .pointer none ∧ (∀ k, k < q → (D.S j k).size = 0) ∧ A = -1 ∧ L = l0 ∧ B = b0) ∨
    ∃ a b, a < q ∧ (D.S j a).size ≠ 0 ∧ g (D.S j a) = some b ∧ v = .pointer (some ⟨b, 0, none⟩) ∧ A = (a : Int) ∧ L = ((D.S j a).size : Int) ∧ B = (szUp (D.S j) a : Int) ∧
      ∀ k, k < q → (D.S j k).size ≠ 0 → k ≠ a → Better D N j a k

/-- What the text keeps of the choice. -/
def Cho' (D : Desc) (N j : Nat) (A L B l0 b0 : Int) : Prop :=
  ((∀ k, k < D.m j → (D.S j k).size = 0) ∧ A = -1 ∧ L = l0 ∧ B = b0) ∨
    ∃ a, a < D.m j ∧ (D.S j a).size ≠ 0 ∧ A = (a : Int) ∧ L = ((D.S j a).size : Int) ∧ B = (szUp (D.S j) a : Int) ∧
      ∀ k, k < D.m j → (D.S j k).size ≠ 0 → k ≠ a → Better D N j a k

section
variable {D : Desc} {N j q : Nat} {g : ByteArray → Option Nat} {v : Value} {A L B l0 b0 : Int}

theorem Cho.out (h : Cho D N j (D.m j) g v A L B l0 b0) : Cho' D N j A L B l0 b0 := by
  rcases h with ⟨_, h2, h3⟩ | ⟨a, b, h1, h2, _, _, h5, h6, h7, h8⟩
  · exact .inl ⟨h2, h3⟩
  · exact .inr ⟨a, h1, h2, h5, h6, h7, h8⟩

theorem Cho.start : Cho D N j 0 g (.pointer none) (-1) l0 b0 l0 b0 := .inl ⟨rfl, fun k hk => absurd hk (by omega), rfl, rfl, rfl⟩

theorem Cho.skip (h : Cho D N j q g v A L B l0 b0) (h0 : (D.S j q).size = 0) : Cho D N j (q + 1) g v A L B l0 b0 := by
  rcases h with ⟨h1, h2, h3⟩ | ⟨a, b, h1, h2, h3, h4, h5, h6, h7, h8⟩
  · refine .inl ⟨h1, fun k hk => ?_, h3⟩
    by_cases e : k = q
    · rw [e]; exact h0
    · exact h2 k (by omega)
  · refine .inr ⟨a, b, by omega, h2, h3, h4, h5, h6, h7, fun k hk hs hne => ?_⟩
    by_cases e : k = q
    · rw [e] at hs; exact absurd h0 hs
    · exact h8 k (by omega) hs hne

theorem Cho.first {b : Nat} (h : ∀ k, k < q → (D.S j k).size = 0) (h0 : (D.S j q).size ≠ 0) (hg : g (D.S j q) = some b) :
    Cho D N j (q + 1) g (.pointer (some ⟨b, 0, none⟩)) (q : Int) ((D.S j q).size : Int) (szUp (D.S j) q : Int) l0 b0 := by
  refine .inr ⟨q, b, by omega, h0, hg, rfl, rfl, rfl, rfl, fun k hk hs hne => ?_⟩
  exact absurd (h k (by omega)) hs

theorem Cho.take {a b : Nat} (h0 : (D.S j q).size ≠ 0) (hg : g (D.S j q) = some b) (ha : (D.S j a).size ≠ 0) (hall : ∀ k, k < q → (D.S j k).size ≠ 0 → k ≠ a → Better D N j a k)
    (hb : chkUp D (D.S j q) N * perx (D.S j a) < chkUp D (D.S j a) N * perx (D.S j q) ∨ (chkUp D (D.S j q) N * perx (D.S j a) = chkUp D (D.S j a) N * perx (D.S j q) ∧ (D.S j a).size < (D.S j q).size)) :
    Cho D N j (q + 1) g (.pointer (some ⟨b, 0, none⟩)) (q : Int) ((D.S j q).size : Int) (szUp (D.S j) q : Int) l0 b0 := by
  refine .inr ⟨q, b, by omega, h0, hg, rfl, rfl, rfl, rfl, fun k hk hs hne => ?_⟩
  have pq := perx_pos h0
  have pa := perx_pos ha
  have pk := perx_pos hs
  by_cases e : k = a
  · subst e
    rcases hb with hb | ⟨hb, hl⟩
    · exact .inl hb
    · exact .inr ⟨hb, .inl hl⟩
  · rcases hb with hb | ⟨hb, hl⟩
    · rcases hall k (by omega) hs e with hk' | ⟨hk', _⟩
      · exact .inl (cross_lt _ _ _ _ _ _ pk hb (Nat.le_of_lt hk'))
      · exact .inl (cross_lt _ _ _ _ _ _ pk hb (Nat.le_of_eq hk'))
    · rcases hall k (by omega) hs e with hk' | ⟨hk', hl'⟩
      · exact .inl (cross_lt' _ _ _ _ _ _ (Nat.le_of_eq hb) hk' pq)
      · have h1 := cross_le _ _ _ _ _ _ pa (Nat.le_of_eq hb) (Nat.le_of_eq hk')
        rcases Nat.lt_or_eq_of_le h1 with h1 | h1
        · exact .inl h1
        · refine .inr ⟨h1, .inl ?_⟩
          rcases hl' with hl' | ⟨hl', _⟩ <;> omega

theorem Cho.keep {a b : Nat} (haq : a < q) (hg : g (D.S j a) = some b) (ha : (D.S j a).size ≠ 0) (hall : ∀ k, k < q → (D.S j k).size ≠ 0 → k ≠ a → Better D N j a k)
    (h1 : ¬ chkUp D (D.S j q) N * perx (D.S j a) < chkUp D (D.S j a) N * perx (D.S j q)) (h2 : chkUp D (D.S j q) N * perx (D.S j a) = chkUp D (D.S j a) N * perx (D.S j q) → (D.S j q).size ≤ (D.S j a).size) :
    Cho D N j (q + 1) g (.pointer (some ⟨b, 0, none⟩)) (a : Int) ((D.S j a).size : Int) (szUp (D.S j) a : Int) l0 b0 := by
  refine .inr ⟨a, b, by omega, ha, hg, rfl, rfl, rfl, rfl, fun k hk hs hne => ?_⟩
  by_cases e : k = q
  · subst e
    by_cases e' : chkUp D (D.S j k) N * perx (D.S j a) = chkUp D (D.S j a) N * perx (D.S j k)
    · refine .inr ⟨e'.symm, ?_⟩
      have := h2 e'
      omega
    · exact .inl (by omega)
  · exact hall k (by omega) hs hne
end

def upd (f : Nat → Int) (j : Nat) (v : Int) : Nat → Int := fun i => if i = j then v else f i
theorem upd_same (f : Nat → Int) (j : Nat) (v : Int) : upd f j v j = v := if_pos rfl
theorem upd_other (f : Nat → Int) {j i : Nat} (v : Int) (h : i ≠ j) : upd f j v i = f i := if_neg h

section
variable {w w' : World} {pb n : Nat} {D : Desc} {TB : Nat → Nat} {an ln bf : Nat → Int}

theorem Parts.below (h : Parts w pb n D TB an ln bf) (hb : Below w.heap.size w w') : Parts w' pb n D TB an ln bf := by
  obtain ⟨f, hr, hf⟩ := h.row
  exact ⟨⟨f, hr.of_block (hb.block _ hr.lt), hf⟩, fun i hi => (h.txt i hi).below hb, h.ne⟩

theorem TxtAt.set {t m : Nat} {S : Nat → ByteArray} (h : TxtAt w t m S) {o : Nat} (hne : t ≠ pb) (v : Value) : TxtAt (w.setCell ⟨pb, o, none⟩ v) t m S := fun k hk => by
  have h1 := h k hk
  exact ⟨(World.cell?_of_block (w := w) (Below.heap_setCell w ⟨pb, o, none⟩ v t hne)).trans h1.1, (World.cell?_of_block (w := w) (Below.heap_setCell w ⟨pb, o, none⟩ v t hne)).trans h1.2⟩

theorem Parts.put (h : Parts w pb n D TB an ln bf) {j : Nat} (A L B : Int) :
    Parts (((w.setCell ⟨pb, j * 5 + 1, none⟩ (.int .i64 A)).setCell ⟨pb, j * 5 + 2, none⟩ (.int .i64 L)).setCell ⟨pb, j * 5 + 3, none⟩ (.int .i64 B)) pb n D TB (upd an j A) (upd ln j L) (upd bf j B) := by
  obtain ⟨f, hr, hf⟩ := h.row
  refine ⟨⟨_, ((hr.set (j * 5 + 1) (.int .i64 A)).set (j * 5 + 2) (.int .i64 L)).set (j * 5 + 3) (.int .i64 B), fun i hi => ?_⟩, fun i hi => (((h.txt i hi).set (h.ne i hi) _).set (h.ne i hi) _).set (h.ne i hi) _, h.ne⟩
  obtain ⟨f0, f1, f2, f3, f4⟩ := hf i hi
  by_cases e : i = j
  · subst e
    simp only [upd_same]
    refine ⟨?_, ?_, ?_, ?_, ?_⟩
    · rw [if_neg (by omega), if_neg (by omega), if_neg (by omega)]; exact f0
    · rw [if_neg (by omega), if_neg (by omega), if_pos trivial]
    · rw [if_neg (by omega), if_pos trivial]
    · rw [if_pos trivial]
    · rw [if_neg (by omega), if_neg (by omega), if_neg (by omega)]; exact f4
  · rw [upd_other an A e, upd_other ln L e, upd_other bf B e]
    refine ⟨?_, ?_, ?_, ?_, ?_⟩ <;> rw [if_neg (by omega), if_neg (by omega), if_neg (by omega)] <;> assumption

theorem Parts.put1 (h : Parts w pb n D TB an ln bf) {j : Nat} (A : Int) :
    Parts (w.setCell ⟨pb, j * 5 + 1, none⟩ (.int .i64 A)) pb n D TB (upd an j A) ln bf := by
  obtain ⟨f, hr, hf⟩ := h.row
  refine ⟨⟨_, hr.set (j * 5 + 1) (.int .i64 A), fun i hi => ?_⟩, fun i hi => (h.txt i hi).set (h.ne i hi) _, h.ne⟩
  obtain ⟨f0, f1, f2, f3, f4⟩ := hf i hi
  by_cases e : i = j
  · subst e
    simp only [upd_same]
    refine ⟨?_, ?_, ?_, ?_, ?_⟩
    · rw [if_neg (by omega)]; exact f0
    · rw [if_pos trivial]
    · rw [if_neg (by omega)]; exact f2
    · rw [if_neg (by omega)]; exact f3
    · rw [if_neg (by omega)]; exact f4
  · rw [upd_other an A e]
    refine ⟨?_, ?_, ?_, ?_, ?_⟩ <;> rw [if_neg (by omega)] <;> assumption

theorem Parts.frozen (h : Parts w pb n D TB an ln bf) (i : Nat) : w.frozen? ⟨pb, i, none⟩ = false := by
  obtain ⟨f, hr, _⟩ := h.row
  exact hr.frozen i

theorem Wt.setOut {M c i k : Nat} {g : ByteArray → Option Nat} {cw ct : ByteArray → Nat} {P : ByteArray → Prop} (h : Wt w M c D i k g cw ct P) (hpb : pb < M) (o : Nat) (v : Value) : Wt (w.setCell ⟨pb, o, none⟩ v) M c D i k g cw ct P :=
  ⟨h.map.block (Below.heap_setCell w ⟨pb, o, none⟩ v M (by show M ≠ pb; omega)), fun x b hx => ⟨(h.recs x b hx).1, (h.recs x b hx).2.of_block (Below.heap_setCell w ⟨pb, o, none⟩ v b (by have := (h.recs x b hx).1; show b ≠ pb; omega))⟩, h.inj, h.seen, h.cwv, h.ctv⟩
end

theorem val15 (U Z s : Nat) (hU : U ≤ 65536) (hZ : Z ≤ 65536) (hs : s ≤ Z) : (Value.int .i64 (IntKind.i64.wrap ((U : Int) + IntKind.i64.wrap (IntKind.i64.wrap (1 + (Z : Int)) - (s : Int))))) = .int .i64 ((U + (1 + Z - s) : Nat) : Int) := by
  have h1 : IntKind.i64.wrap (1 + (Z : Int)) = 1 + (Z : Int) := IntWalk.i64_in _ (by omega)
  have h2 : IntKind.i64.wrap (1 + (Z : Int) - (s : Int)) = ((1 + Z - s : Nat) : Int) := by rw [IntWalk.i64_in _ (by omega)]; omega
  rw [h1, h2, IntWalk.i64_in _ (by omega)]
  congr 1
theorem mul64 (a b : Nat) (ha : a ≤ 65536) (hb : b ≤ 65536) : IntKind.i64.wrap ((a : Int) * (b : Int)) = ((a * b : Nat) : Int) := by
  have : a * b ≤ 65536 * 65536 := Nat.mul_le_mul ha hb
  rw [← Int.natCast_mul]
  exact IntWalk.i64_in _ (by omega)

/-- The second pass' memory. -/
structure St (w wr : World) (pb n : Nat) (D : Desc) (TB : Nat → Nat) (c : Nat) (g : ByteArray → Option Nat) (cw ct : ByteArray → Nat) (an ln bf : Nat → Int) : Prop where
  parts : Parts wr pb n D TB an ln bf
  wt : Wt wr w.heap.size c D n 0 g cw ct (Seen D n 0)
  bel : Below pb w wr

section
variable {w wr : World} {pb n : Nat} {D : Desc} {TB : Nat → Nat} {c : Nat} {g : ByteArray → Option Nat} {cw ct : ByteArray → Nat} {an ln bf : Nat → Int}

theorem St.lt (h : St w wr pb n D TB c g cw ct an ln bf) : pb < wr.heap.size := by obtain ⟨f, hr, _⟩ := h.parts.row; exact hr.lt
theorem St.alloc (h : St w wr pb n D TB c g cw ct an ln bf) (o : Obj) : St w (wr.alloc o) pb n D TB c g cw ct an ln bf :=
  ⟨h.parts.below ((Below.refl wr.heap.size wr).alloc (Nat.le_refl _) o), h.wt.below ((Below.refl wr.heap.size wr).alloc (Nat.le_refl _) o), h.bel.alloc (Nat.le_of_lt h.lt) o⟩
theorem St.drewN (h : St w wr pb n D TB c g cw ct an ln bf) (N : Nat) : St w (wr.drewN N) pb n D TB c g cw ct an ln bf :=
  ⟨h.parts.below (below_drewN (Below.refl wr.heap.size wr) N), h.wt.below (below_drewN (Below.refl wr.heap.size wr) N), below_drewN h.bel N⟩
theorem St.put1 (h : St w wr pb n D TB c g cw ct an ln bf) (hpb : pb < w.heap.size) (j : Nat) (A : Int) : St w (wr.setCell ⟨pb, j * 5 + 1, none⟩ (.int .i64 A)) pb n D TB c g cw ct (upd an j A) ln bf :=
  ⟨h.parts.put1 A, h.wt.setOut hpb _ _, h.bel.setCell (Nat.le_refl _) _⟩
theorem St.put (h : St w wr pb n D TB c g cw ct an ln bf) (hpb : pb < w.heap.size) (j : Nat) (A L B : Int) : St w (((wr.setCell ⟨pb, j * 5 + 1, none⟩ (.int .i64 A)).setCell ⟨pb, j * 5 + 2, none⟩ (.int .i64 L)).setCell ⟨pb, j * 5 + 3, none⟩ (.int .i64 B)) pb n D TB c g cw ct (upd an j A) (upd ln j L) (upd bf j B) :=
  ⟨h.parts.put A L B, ((h.wt.setOut hpb _ _).setOut hpb _ _).setOut hpb _ _, ((h.bel.setCell (Nat.le_refl _) _).setCell (Nat.le_refl _) _).setCell (Nat.le_refl _) _⟩

/-- A run's weight, ready. -/
theorem St.weigh (h : St w wr pb n D TB c g cw ct an ln bf) {j q : Nat} (hj : j < n) (hq : q < D.m j) (h0 : (D.S j q).size ≠ 0) :
    ∃ b, g (D.S j q) = some b ∧ w.heap.size < b ∧ wr.cell? ⟨b, 0, none⟩ = some (.int .i64 (chkUp D (D.S j q) n : Int)) ∧ wr.cell? ⟨b, 1, none⟩ = some (.int .i64 (perx (D.S j q) : Int)) ∧ b < wr.heap.size := by
  have hs : Seen D n 0 (D.S j q) := ⟨h0, .inl ⟨j, hj, (has_iff _ _ _).2 ⟨q, hq, rfl⟩⟩⟩
  obtain ⟨b, hb⟩ := (h.wt.seen _).2 hs
  obtain ⟨h1, h2⟩ := h.wt.recs _ _ hb
  have h3 := h.wt.cwv _ hs
  simp [has] at h3
  refine ⟨b, hb, h1, ?_, h2.cell (by omega), h2.lt⟩
  rw [← h3]
  exact h2.cell (by omega)
end

end Go.Proofs.Qxb6602406a
