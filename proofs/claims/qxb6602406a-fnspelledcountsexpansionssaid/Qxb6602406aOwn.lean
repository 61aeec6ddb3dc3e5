/-
  Seat b6602406a: a slice that the call itself made, its content by the index: 'Own'. One cell an element.
-/
import Derived.Test.Qxb6602406aBase
namespace Go.Proofs.Qxb6602406a
open Go.RowKit

def Own (w : World) (B : Nat) (e : TypeId) (v : Value) (n : Nat) (f : Nat → Value) : Prop := w.ownsRow B e 1 v n ((List.range n).map f)

namespace Own
variable {w : World} {B : Nat} {e : TypeId} {v : Value} {n : Nat} {f g : Nat → Value}

theorem congr (h : Own w B e v n f) (he : ∀ i, i < n → f i = g i) : Own w B e v n g := by
  unfold Own at h ⊢
  have : (List.range n).map f = (List.range n).map g := List.map_congr_left fun i hi => he i (List.mem_range.1 hi)
  rwa [this] at h
theorem nil (w : World) (B : Nat) (e : TypeId) (f : Nat → Value) : Own w B e (.slice none 0 0) 0 f := World.ownsRow_nil w B e 1
theorem form (h : Own w B e v n f) : (v = .slice none 0 0 ∧ n = 0) ∨ ∃ g cap, v = .slice (some ⟨g, 0, none⟩) n cap ∧ B ≤ g ∧ g < w.heap.size := by
  rcases h.2 with h' | ⟨g, cap, cur, rfl, hb, hg, _⟩
  · exact .inl h'
  · exact .inr ⟨g, cap, rfl, hb, (Array.getElem?_eq_some_iff.1 hg).1⟩
theorem shape (h : Own w B e v n f) : ∃ ao cap, v = .slice ao n cap := by
  rcases h.form with ⟨rfl, rfl⟩ | ⟨g, cap, rfl, _⟩
  · exact ⟨_, _, rfl⟩
  · exact ⟨_, _, rfl⟩
theorem some (h : Own w B e v n f) (hn : 0 < n) : ∃ g cap, v = .slice (some ⟨g, 0, none⟩) n cap ∧ B ≤ g ∧ g < w.heap.size := by
  rcases h.form with ⟨_, h'⟩ | h'
  · omega
  · exact h'
theorem cell {b cap : Nat} (h : Own w B e (.slice (.some ⟨b, 0, none⟩) n cap) n f) {j : Nat} (hj : j < n) : w.cell? ⟨b, j, none⟩ = .some (f j) := by
  have := World.ownsRow.cellAt h j (by omega)
  rw [this]; simp [hj]
theorem frozen {b cap : Nat} (h : Own w B e (.slice (.some ⟨b, 0, none⟩) n cap) n f) (j : Nat) : w.frozen? ⟨b, j, none⟩ = false := World.ownsRow.frozenAt h j
theorem set {b cap : Nat} (h : Own w B e (.slice (.some ⟨b, 0, none⟩) n cap) n f) (j : Nat) (u : Value) : Own (w.setCell ⟨b, j, none⟩ u) B e (.slice (.some ⟨b, 0, none⟩) n cap) n (fun i => if i = j then u else f i) := by
  have := (World.ownsRow.stored h j u).1
  unfold Own
  have e1 : ((List.range n).map f).set j u = (List.range n).map (fun i => if i = j then u else f i) := by
    apply List.ext_getElem?
    intro i
    rw [List.getElem?_set]
    by_cases hi : i < n
    · by_cases hij : j = i
      · subst hij; simp [hi]
      · have : ¬ i = j := fun h => hij h.symm
        simp [hi, hij, this]
    · by_cases hij : j = i
      · subst hij; simp [hi]
      · simp [hi, hij]
  rwa [e1] at this
theorem kept {w' : World} {row : Option Nat} (h : Own w B e v n f) (hg : w.grownBy w' row) (hne : v.ownBlock = none ∨ v.ownBlock ≠ row) : Own w' B e v n f := World.ownsRow.kept h hg hne
theorem alloc (h : Own w B e v n f) (o : Obj) : Own (w.alloc o) B e v n f := World.ownsRow.alloc h o
theorem drew (h : Own w B e v n f) : Own w.drew B e v n f := h
theorem setOther (h : Own w B e v n f) {a : Addr} (ha : v.ownBlock ≠ .some a.block) (u : Value) : Own (w.setCell a u) B e v n f :=
  h.kept (row := .some a.block) ⟨rfl, rfl, rfl, by simp [World.setCell], fun k _ hk => Below.heap_setCell _ _ _ _ (fun e => hk (by rw [e]))⟩ (.inr ha)
theorem mono {B' : Nat} (h : Own w B e v n f) (hB : B' ≤ B) : Own w B' e v n f := by
  refine ⟨h.1, ?_⟩
  rcases h.2 with h' | ⟨g, cap, cur, r1, r2, r3⟩
  · exact .inl h'
  · exact .inr ⟨g, cap, cur, r1, Nat.le_trans hB r2, r3⟩
/-- m zeros more. -/
theorem more {w' : World} {v' : Value} {m : Nat} {z : Value} (h : w'.ownsRow B e 1 v' (n + m) ((List.range n).map f ++ List.replicate m z)) (hg : ∀ i, i < n → f i = g i) (hz : ∀ i, n ≤ i → i < n + m → g i = z) : Own w' B e v' (n + m) g := by
  unfold Own
  have e1 : (List.range n).map f ++ List.replicate m z = (List.range (n + m)).map g := by
    apply List.ext_getElem?
    intro i
    by_cases hi : i < n
    · rw [List.getElem?_append_left (by simpa using hi)]
      simp [hi, hg i hi, show i < n + m by omega]
    · rw [List.getElem?_append_right (by simpa using hi)]
      by_cases h2 : i < n + m
      · rw [List.getElem?_replicate]
        simp [h2, hz i (by omega) h2, show i - n < m by omega]
      · rw [List.getElem?_replicate]
        simp [h2, show ¬ i - n < m by omega]
  rwa [e1] at h
theorem row {B' : Nat} (h : w.rowIs B' e n f) (hB : B ≤ B') (hn : n ≤ maxLen) : Own w B e (.slice (.some ⟨B', 0, none⟩) n n) n f := by
  obtain ⟨c, h1, h2, h3⟩ := h
  refine ⟨by simp, .inr ⟨B', n, c, rfl, hB, h1, Nat.le_refl _, hn, by omega, ?_⟩⟩
  apply List.ext_getElem?
  intro i
  by_cases hi : i < n
  · rw [List.getElem?_take, if_pos (by omega)]
    simp [hi]
    have := h3 i hi
    simpa using this
  · rw [List.getElem?_take, if_neg (by omega)]
    simp [hi]
end Own

end Go.Proofs.Qxb6602406a
