/-
  Seat b6602406a: the walk of chooseAnchors.
-/
import Derived.Test.Qxb6602406aAncWt
import Derived.Deep.DeepCutAuto
namespace Go.Proofs.Qxb6602406a
open Go.RowKit

/-- The parts in memory. -/
structure Parts (w : World) (pb n : Nat) (D : Desc) (TB : Nat → Nat) (an ln bf : Nat → Int) : Prop where
  row : ∃ f, w.rowIs pb 81 (n * 5) f ∧ ∀ i, i < n → f (i * 5) = .slice (some ⟨TB i, 0, none⟩) (D.m i) (D.m i) ∧ f (i * 5 + 1) = .int .i64 (an i) ∧ f (i * 5 + 2) = .int .i64 (ln i) ∧ f (i * 5 + 3) = .int .i64 (bf i) ∧ f (i * 5 + 4) = .bool (D.ex i)
  txt : ∀ i, i < n → TxtAt w (TB i) (D.m i) (D.S i)
  ne : ∀ i, i < n → TB i ≠ pb

theorem Parts.at {w : World} {pb n : Nat} {D : Desc} {TB : Nat → Nat} {an ln bf : Nat → Int} (h : Parts w pb n D TB an ln bf) {i : Nat} (hi : i < n) :
    w.cell? ⟨pb, i * 5, none⟩ = some (.slice (some ⟨TB i, 0, none⟩) (D.m i) (D.m i)) ∧ w.cell? ⟨pb, i * 5 + 1, none⟩ = some (.int .i64 (an i)) ∧ w.cell? ⟨pb, i * 5 + 2, none⟩ = some (.int .i64 (ln i)) ∧ w.cell? ⟨pb, i * 5 + 3, none⟩ = some (.int .i64 (bf i)) ∧ w.cell? ⟨pb, i * 5 + 4, none⟩ = some (.bool (D.ex i)) := by
  obtain ⟨f, hr, hf⟩ := h.row
  obtain ⟨f0, f1, f2, f3, f4⟩ := hf i hi
  refine ⟨?_, ?_, ?_, ?_, ?_⟩
  · rw [hr.cell (by omega), f0]
  · rw [hr.cell (by omega), f1]
  · rw [hr.cell (by omega), f2]
  · rw [hr.cell (by omega), f3]
  · rw [hr.cell (by omega), f4]

def padr (o : Option Nat) : Option Addr := match o with | none => none | some b => some ⟨b, 0, none⟩
theorem ptr_padr (o : Option Nat) : ptr o = .pointer (padr o) := by cases o <;> rfl

theorem empty_of (x : ByteArray) : x.toList.isEmpty = decide (x.size = 0) := by
  rw [ByteArray.toList_eq]
  cases x with | mk d =>
  cases d with | mk l =>
  cases l with
  | nil => rfl
  | cons a l => simp [ByteArray.size]

/-- What the walk holds of the run's weight: it is in the map; the piece lies in a block of its own. -/
def Met1 (w w' : World) (D : Desc) (j q : Nat) (x : ByteArray) (pp : Nat) (v : Value) : Prop :=
  ∃ (b c : Nat) (g : ByteArray → Option Nat) (cw ct : ByteArray → Nat), v = .pointer (some ⟨b, 0, none⟩) ∧ g x = some b ∧ c ≤ 4096 * j + q + 1 ∧ Wt w' w.heap.size c D j q g cw ct (fun z => Seen D j q z ∨ z = x) ∧ w'.cell? ⟨pp, 0, none⟩ = some (.string x) ∧ Below w.heap.size w w'

theorem Met1.old {w wr : World} {D : Desc} {j q b c : Nat} {x : ByteArray} {g : ByteArray → Option Nat} {cw ct : ByteArray → Nat} (hW : Wt wr w.heap.size c D j q g cw ct (Seen D j q)) (hbel : Below w.heap.size w wr) (hg : g x = some b) (hc : c ≤ 4096 * j + q) (C : Array Value) (hC : C[0]? = some (.string x)) :
    Met1 w (wr.alloc (.cells C 79)) D j q x wr.heap.size (.pointer (some ⟨b, 0, none⟩)) := by
  refine ⟨b, c, g, cw, ct, rfl, hg, by omega, ?_, ?_, hbel.alloc hbel.size _⟩
  · have h1 := hW.below ((Below.refl wr.heap.size wr).alloc (Nat.le_refl _) (.cells C 79))
    refine h1.congr (fun z => ⟨fun h => .inl h, ?_⟩) (fun _ _ => rfl)
    rintro (h | rfl)
    · exact h
    · exact (hW.seen z).1 ⟨b, hg⟩
  · rw [World.cell?_alloc_new]; exact hC

theorem Met1.new {w wr w2 w3 : World} {D : Desc} {j q c : Nat} {x : ByteArray} {g : ByteArray → Option Nat} {cw ct : ByteArray → Nat} (hW : Wt wr w.heap.size c D j q g cw ct (Seen D j q)) (hbel : Below w.heap.size w wr) (hg : g x = none) (hx : x.size ≠ 0) (hc : c ≤ 4096 * j + q) (C R : Array Value) (hC : C[0]? = some (.string x))
    (hb2 : Below (wr.alloc (.cells C 79)).heap.size (wr.alloc (.cells C 79)) w2) (hR : R = #[.int .i64 0, .int .i64 (perx x : Int), .int .i64 0])
    (hmap : MapIs w3 w.heap.size (c + 1) (fun z => if z = x then some w2.heap.size else g z)) (hgr : (w2.alloc (.cells R 89)).grownBy w3 (some w.heap.size)) :
    Met1 w w3 D j q x wr.heap.size (.pointer (some ⟨w2.heap.size, 0, none⟩)) := by
  have hs1 := hbel.size
  have hs2 : wr.heap.size + 1 ≤ w2.heap.size := by have := hb2.size; simpa using this
  have hM := hW.map.lt
  have hW2 : Wt w2 w.heap.size c D j q g cw ct (Seen D j q) := (hW.below ((Below.refl wr.heap.size wr).alloc (Nat.le_refl _) (.cells C 79))).below hb2
  have hW3 : Wt (w2.alloc (.cells R 89)) w.heap.size c D j q g cw ct (Seen D j q) := hW2.below ((Below.refl w2.heap.size w2).alloc (Nat.le_refl _) _)
  have hsz : (w2.alloc (.cells R 89)).heap.size = w2.heap.size + 1 := by simp
  have hrow : (w2.alloc (.cells R 89)).rowIs w2.heap.size 89 3 (wrec 0 (perx x) 0) := by
    have := World.rowIs_alloc w2 R 89 (wrec 0 (perx x) 0) (fun i hi => by
      subst hR
      match i, hi with
      | 0, _ => rfl
      | 1, _ => rfl
      | 2, _ => rfl)
    rw [hR] at this ⊢
    exact this
  refine ⟨w2.heap.size, c + 1, _, _, _, rfl, if_pos rfl, by omega, hW3.add x (fun z => Iff.rfl) hx (fun hs => ?_) (fun z b' hz e => ?_) (by omega) hmap (hrow.of_block (hgr.block _ (by omega) (fun e => by injection e with e; omega))) (fun b' hb' hne => hgr.block b' hb' (fun e => hne (by injection e))), ?_, ?_⟩
  · obtain ⟨b, hb⟩ := (hW.seen x).2 hs
    rw [hg] at hb; cases hb
  · have := (hW2.recs z b' hz).2.lt
    omega
  · have h1 : w2.cell? ⟨wr.heap.size, 0, none⟩ = some (.string x) := by
      rw [hb2.cell (p := ⟨wr.heap.size, 0, none⟩) (by simp), World.cell?_alloc_new]; exact hC
    have h2 : (w2.alloc (.cells R 89)).cell? ⟨wr.heap.size, 0, none⟩ = some (.string x) := by
      rw [World.cell?_alloc_lt _ _ _ (by show wr.heap.size < w2.heap.size; omega)]; exact h1
    exact hgr.cell h2 (fun e => by injection e with e; simp at e; omega)
  · exact (((hbel.alloc hs1 _).trans (hb2.mono (by simp; omega))).alloc (by omega) _).grown hgr (by omega) (fun k hk => by injection hk with hk; omega)

/-- What the walk holds of the run's weight while it is counted. -/
def Met2 (w wc w' : World) (b U p T : Nat) : Prop := w'.rowIs b 89 3 (wrec U p T) ∧ (∀ b', b' < wc.heap.size → b' ≠ b → w'.heap[b']? = wc.heap[b']?) ∧ Below w.heap.size w w' ∧ wc.heap.size ≤ w'.heap.size

theorem Met2.same {w wc : World} {b U p T : Nat} (hr : wc.rowIs b 89 3 (wrec U p T)) (hb : Below w.heap.size w wc) : Met2 w wc wc b U p T := ⟨hr, fun _ _ _ => rfl, hb, Nat.le_refl _⟩

theorem Met2.put {w wc w2 : World} {b U U' p T : Nat} (hr : wc.rowIs b 89 3 (wrec U p T)) (hb : Below w.heap.size w wc) (hMb : w.heap.size < b) (h2 : Below wc.heap.size wc w2) (N : Nat) : Met2 w wc ((w2.setCell ⟨b, 0, none⟩ (.int .i64 (U' : Int))).drewN N) b U' p T := by
  have hs := h2.size
  have hw := hb.size
  have hr2 := hr.of_block (h2.block b hr.lt)
  refine ⟨?_, fun b' hb' hne => ?_, below_drewN ((hb.trans (h2.mono hw)).setCell (Nat.le_of_lt hMb) _) N, ?_⟩
  · refine ((hr2.set 0 (.int .i64 (U' : Int))).congr (g := wrec U' p T) fun t _ => ?_).of_block rfl
    match t with
    | 0 => rfl
    | 1 => rfl
    | _ + 2 => rfl
  · exact (Below.heap_setCell w2 ⟨b, 0, none⟩ _ b' hne).trans (h2.block b' hb')
  · show wc.heap.size ≤ (w2.setCell ⟨b, 0, none⟩ _).heap.size
    simpa using hs

theorem Met2.done {w wc w' : World} {b U p T : Nat} (h : Met2 w wc w' b U p T) (hMb : w.heap.size < b) (T' : Nat) : Met2 w wc (w'.setCell ⟨b, 2, none⟩ (.int .i64 (T' : Int))) b U p T' := by
  obtain ⟨hr, hk, hb, hs⟩ := h
  refine ⟨?_, fun b' hb' hne => ?_, hb.setCell (Nat.le_of_lt hMb) _, by simpa using hs⟩
  · refine (hr.set 2 (.int .i64 (T' : Int))).congr (g := wrec U p T') fun t ht => ?_
    match t, ht with
    | 0, _ => rfl
    | 1, _ => rfl
    | 2, _ => rfl
  · exact (Below.heap_setCell w' ⟨b, 2, none⟩ _ b' hne).trans (hk b' hb' hne)

end Go.Proofs.Qxb6602406a
