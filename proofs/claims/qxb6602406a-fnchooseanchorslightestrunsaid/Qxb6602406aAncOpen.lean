/-
  Seat b6602406a: a list of texts that came in, opened.
-/
import Derived.Test.Qxb6602406aAncMem
import Derived.Deep.Slices
import Derived.SliceStrings
import Derived.OpenShut
namespace Go.Proofs.Qxb6602406a
open Go.ChangeShapes Go.WideShapes Go.RowKit

theorem Try.cells44 : Try.prog.cellsOf 44 = 1 := by kernel_rfl
theorem Try.cells56 : Try.prog.cellsOf 56 = 5 := by kernel_rfl
theorem Try.cells54 : Try.prog.cellsOf 54 = 1 := by kernel_rfl
theorem Try.cells4 : Try.prog.cellsOf 4 = 1 := by kernel_rfl
theorem Try.cells3 : Try.prog.cellsOf 3 = 1 := by kernel_rfl
theorem Try.cells9 : Try.prog.cellsOf 9 = 1 := by kernel_rfl

section
variable {H : Type} {enc : TypeId × Value → H} {w : World} {base : Nat} {spare : Nat → Bool} {held : Bool} {fuel : Nat} {cs : List Value} {x : DataW H × List MemPlace}

theorem open_pieces (h : DataW.trod enc Try.prog w base spare held fuel 54 cs = some x) :
    ∃ (A : Option Addr) (m c : Nat) (S : Nat → ByteArray), cs = [.slice A m c] ∧ (A = none → m = 0) ∧ Pcs w A m S ∧ m ≤ maxLen ∧ ∀ k, k < m → (S k).size ≤ maxLen := by
  rcases Go.ChangeShapes.open_strings Try.underlying54 Try.underlying9 Try.cells9 h with ⟨rfl, _⟩ | ⟨a, len, cap, ss, rfl, hb, hl, hm, hss, _, hc, hs⟩
  · exact ⟨none, 0, 0, fun _ => ByteArray.empty, rfl, fun _ => rfl, .inl rfl, by unfold maxLen; omega, fun k hk => absurd hk (by omega)⟩
  · have hle : len ≤ ss.length := by rw [hss]; split <;> omega
    refine ⟨some a, len, cap, fun k => ss.getD k ByteArray.empty, rfl, fun e => (by cases e), ?_, Nat.le_trans hl hm, fun k hk => ?_⟩
    · by_cases h0 : len = 0
      · exact .inl h0
      · obtain ⟨b, off, spot⟩ := a
        have hspot : spot = none := by simpa [Addr.add] using World.cell?_spot (hc 0 (by omega))
        subst hspot
        exact .inr ⟨b, off, rfl, fun k hk => by rw [← Go.WideShapes.add_plain]; exact hc k (by omega)⟩
    · refine hs _ ?_
      show ss.getD k ByteArray.empty ∈ ss
      rw [List.getD_eq_getElem?_getD, List.getElem?_eq_getElem (by omega), Option.getD_some]
      exact List.getElem_mem _

theorem open_text (h : DataW.trod enc Try.prog w base spare held fuel 56 cs = some x) :
    ∃ (A : Option Addr) (m c : Nat) (S : Nat → ByteArray) (ex : Bool) (an ln bf : Int), cs = [.slice A m c, .bool ex, .int .i64 an, .int .i64 ln, .int .i64 bf] ∧ (A = none → m = 0) ∧ Pcs w A m S ∧ m ≤ maxLen ∧ ∀ k, k < m → (S k).size ≤ maxLen := by
  obtain ⟨xs, n, _, rfl, hl, hlen, hf⟩ := DataW.trod_struct Try.underlying56 h
  rw [Try.cells56] at hl
  match cs, hl with
  | [v0, v1, v2, v3, v4], _ =>
    match xs, hlen with
    | [y0, y1, y2, y3, y4], _ =>
      have h0 : DataW.trod enc Try.prog w base spare held n 54 [v0] = some y0 := by have := hf 0 _ rfl; simpa [Try.cells54, Try.cells4, Try.cells3] using this
      have h1 : DataW.trod enc Try.prog w base spare held n 4 [v1] = some y1 := by have := hf 1 _ rfl; simpa [Try.cells54, Try.cells4, Try.cells3] using this
      have h2 : DataW.trod enc Try.prog w base spare held n 3 [v2] = some y2 := by have := hf 2 _ rfl; simpa [Try.cells54, Try.cells4, Try.cells3] using this
      have h3 : DataW.trod enc Try.prog w base spare held n 3 [v3] = some y3 := by have := hf 3 _ rfl; simpa [Try.cells54, Try.cells4, Try.cells3] using this
      have h4 : DataW.trod enc Try.prog w base spare held n 3 [v4] = some y4 := by have := hf 4 _ rfl; simpa [Try.cells54, Try.cells4, Try.cells3] using this
      obtain ⟨A, m, c, S, e0, hA, hP, hm, hs⟩ := open_pieces h0
      obtain ⟨ex, e1, _⟩ := DataW.trod_bool Try.underlying4 h1
      obtain ⟨an, e2, _⟩ := DataW.trod_int Try.underlying3 h2
      obtain ⟨ln, e3, _⟩ := DataW.trod_int Try.underlying3 h3
      obtain ⟨bf, e4, _⟩ := DataW.trod_int Try.underlying3 h4
      simp at e0 e1 e2 e3 e4
      subst e0 e1 e2 e3 e4
      exact ⟨A, m, c, S, ex, an, ln, bf, rfl, hA, hP, hm, hs⟩

theorem open_texts {a : Option Addr} {len cap : Nat} (h : DataW.trod enc Try.prog w base spare held fuel 44 [.slice a len cap] = some x) :
    ∃ D : Desc, Texts w a len D ∧ len ≤ 9223372036854775807 ∧ (∀ i, i < len → D.m i ≤ 9223372036854775807) ∧ (∀ i k, i < len → k < D.m i → (D.S i k).size ≤ 9223372036854775807) ∧ (a = none → cap = 0) := by
  rcases Go.Deep.open_slice Try.underlying44 h with ⟨hcs, _⟩ | ⟨y, l, c, m, n, Dd, Pl, hcs, hb, hl, hm, hmm, _, hx⟩
  · simp at hcs
    obtain ⟨rfl, rfl, rfl⟩ := hcs
    exact ⟨⟨fun _ => 0, fun _ _ => ByteArray.empty, fun _ => false, fun _ => 0, fun _ => 0, fun _ => 0⟩, .inl rfl, by omega, fun i hi => absurd hi (by omega), fun i k hi => absurd hi (by omega), fun _ => rfl⟩
  · simp at hcs
    obtain ⟨rfl, rfl, rfl⟩ := hcs
    have hle : len ≤ m := by rw [hmm]; split <;> omega
    rw [Try.cells56] at hx
    have hx' : ∀ i, i < len → ∃ q : Nat × (Nat → ByteArray) × Bool × Int × Int × Int, ∃ A c', w.cell? ((y.add (i * 5)).add 0) = some (.slice A q.1 c') ∧ w.cell? ((y.add (i * 5)).add 1) = some (.bool q.2.2.1) ∧ w.cell? ((y.add (i * 5)).add 2) = some (.int .i64 q.2.2.2.1) ∧ w.cell? ((y.add (i * 5)).add 3) = some (.int .i64 q.2.2.2.2.1) ∧ w.cell? ((y.add (i * 5)).add 4) = some (.int .i64 q.2.2.2.2.2) ∧ (A = none → q.1 = 0) ∧ Pcs w A q.1 q.2.1 ∧ q.1 ≤ maxLen ∧ ∀ k, k < q.1 → (q.2.1 k).size ≤ maxLen := by
      intro i hi
      obtain ⟨cs', h1, h2⟩ := hx i (by omega)
      obtain ⟨A, mm, c', S, ex, an, ln, bf, rfl, hA, hP, hmx, hs⟩ := open_text h2
      obtain ⟨_, _, hc⟩ := World.cells?_some h1
      exact ⟨(mm, S, ex, an, ln, bf), A, c', hc 0 (by omega), hc 1 (by omega), hc 2 (by omega), hc 3 (by omega), hc 4 (by omega), hA, hP, hmx, hs⟩
    obtain ⟨q, hq⟩ := Go.Deep.choose_lt hx'
    refine ⟨⟨fun i => (q i).1, fun i => (q i).2.1, fun i => (q i).2.2.1, fun i => (q i).2.2.2.1, fun i => (q i).2.2.2.2.1, fun i => (q i).2.2.2.2.2⟩, ?_, by unfold maxLen at hm; omega, fun i hi => ?_, fun i k hi hk => ?_, fun e => (by cases e)⟩
    · by_cases h0 : len = 0
      · exact .inl h0
      · obtain ⟨b, off, spot⟩ := y
        have hspot : spot = none := by
          obtain ⟨A, c', h1, _⟩ := hq 0 (by omega)
          simpa [Addr.add] using World.cell?_spot h1
        subst hspot
        refine .inr ⟨b, off, rfl, fun i hi => ?_⟩
        obtain ⟨A, c', h1, h2, h3, h4, h5, h6, h7, _⟩ := hq i hi
        simp only [Go.WideShapes.add_plain] at h1 h2 h3 h4 h5
        exact ⟨A, c', h1, h2, h3, h4, h5, h6, h7⟩
    · obtain ⟨A, c', _, _, _, _, _, _, _, h8, _⟩ := hq i hi
      unfold maxLen at h8
      exact h8
    · obtain ⟨A, c', _, _, _, _, _, _, _, _, h9⟩ := hq i hi
      have := h9 k hk
      unfold maxLen at this
      exact this
end

end Go.Proofs.Qxb6602406a
