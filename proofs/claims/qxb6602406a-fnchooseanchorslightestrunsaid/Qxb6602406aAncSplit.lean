/-
  Seat b6602406a: the walk of splitTexts.
-/
import Derived.Test.Qxb6602406aAncCopy
namespace Go.Proofs.Qxb6602406a
open Go.RowKit

theorem Try.info54 : (Try.prog.info? 54).map (fun i => (i.zero, i.size, i.bytes)) = some (some (.slice none 0 0), 1, 24) := by kernel_rfl

theorem upto_set' {α : Type} (f g : Nat → α) (j : Nat) (v : α) (hv : v = f j) (q : Nat) : (if q = j then v else if q < j then f q else g q) = if q < j + 1 then f q else g q := by
  by_cases h1 : q = j
  · subst h1; rw [if_pos rfl, if_pos (by omega), hv]
  · by_cases h2 : q < j
    · rw [if_neg h1, if_pos h2, if_pos (by omega)]
    · rw [if_neg h1, if_neg h2, if_neg (by omega)]

/-- Of the five rows from block B on the first j cells are laid. -/
structure Sp (w wr : World) (B n : Nat) (D : Desc) (j : Nat) : Prop where
  ps : ∃ f, wr.rowIs B 54 n f ∧ ∀ i, i < j → ∃ A c, f i = .slice A (D.m i) c ∧ Pcs w A (D.m i) (D.S i)
  xs : wr.rowIs (B + 1) 4 n (fun i => if i < j then .bool (D.ex i) else .bool false)
  an : wr.rowIs (B + 2) 3 n (fun i => if i < j then .int .i64 (D.an i) else .int .i64 0)
  ln : wr.rowIs (B + 3) 3 n (fun i => if i < j then .int .i64 (D.ln i) else .int .i64 0)
  bf : wr.rowIs (B + 4) 3 n (fun i => if i < j then .int .i64 (D.bf i) else .int .i64 0)

theorem Sp.start (w : World) (n : Nat) (D : Desc) : Sp w (((((w.alloc (.cells (madeCells #[Value.slice none 0 0] n) 54)).alloc (.cells (madeCells #[Value.bool false] n) 4)).alloc (.cells (madeCells #[Value.int .i64 0] n) 3)).alloc (.cells (madeCells #[Value.int .i64 0] n) 3)).alloc (.cells (madeCells #[Value.int .i64 0] n) 3)) w.heap.size n D 0 := by
  refine ⟨⟨_, ((((World.rowIs_made w (.slice none 0 0) n 54).alloc _).alloc _).alloc _).alloc _, fun i hi => by omega⟩, ?_, ?_, ?_, ?_⟩
  · have := (((World.rowIs_made (w.alloc (.cells (madeCells #[Value.slice none 0 0] n) 54)) (.bool false) n 4).alloc (.cells (madeCells #[Value.int .i64 0] n) 3)).alloc (.cells (madeCells #[Value.int .i64 0] n) 3)).alloc (.cells (madeCells #[Value.int .i64 0] n) 3)
    simp only [World.size_alloc] at this
    exact this.congr fun q _ => by simp
  · have := ((World.rowIs_made ((w.alloc (.cells (madeCells #[Value.slice none 0 0] n) 54)).alloc (.cells (madeCells #[Value.bool false] n) 4)) (.int .i64 0) n 3).alloc (.cells (madeCells #[Value.int .i64 0] n) 3)).alloc (.cells (madeCells #[Value.int .i64 0] n) 3)
    simp only [World.size_alloc] at this
    exact this.congr fun q _ => by simp
  · have := (World.rowIs_made (((w.alloc (.cells (madeCells #[Value.slice none 0 0] n) 54)).alloc (.cells (madeCells #[Value.bool false] n) 4)).alloc (.cells (madeCells #[Value.int .i64 0] n) 3)) (.int .i64 0) n 3).alloc (.cells (madeCells #[Value.int .i64 0] n) 3)
    simp only [World.size_alloc] at this
    exact this.congr fun q _ => by simp
  · have := World.rowIs_made ((((w.alloc (.cells (madeCells #[Value.slice none 0 0] n) 54)).alloc (.cells (madeCells #[Value.bool false] n) 4)).alloc (.cells (madeCells #[Value.int .i64 0] n) 3)).alloc (.cells (madeCells #[Value.int .i64 0] n) 3)) (.int .i64 0) n 3
    simp only [World.size_alloc] at this
    exact this.congr fun q _ => by simp

theorem Sp.step {w wr : World} {B n : Nat} {D : Desc} {j c : Nat} {A : Option Addr} (h : Sp w wr B n D j) (hp : Pcs w A (D.m j) (D.S j)) :
    Sp w (((((wr.setCell ⟨B, j, none⟩ (.slice A (D.m j) c)).setCell ⟨B + 1, j, none⟩ (.bool (D.ex j))).setCell ⟨B + 2, j, none⟩ (.int .i64 (D.an j))).setCell ⟨B + 3, j, none⟩ (.int .i64 (D.ln j))).setCell ⟨B + 4, j, none⟩ (.int .i64 (D.bf j))) B n D (j + 1) := by
  obtain ⟨f, hr, hf⟩ := h.ps
  refine ⟨⟨_, ((((hr.set j _).setOther (by show B ≠ B + 1; omega) _).setOther (by show B ≠ B + 2; omega) _).setOther (by show B ≠ B + 3; omega) _).setOther (by show B ≠ B + 4; omega) _, fun i hi => ?_⟩, ?_, ?_, ?_, ?_⟩
  · by_cases e : i = j
    · subst e; exact ⟨A, c, if_pos rfl, hp⟩
    · obtain ⟨A', c', h1, h2⟩ := hf i (by omega)
      exact ⟨A', c', by rw [if_neg e]; exact h1, h2⟩
  · exact (((((h.xs.setOther (by show B + 1 ≠ B; omega) _).set j _).setOther (by show B + 1 ≠ B + 2; omega) _).setOther (by show B + 1 ≠ B + 3; omega) _).setOther (by show B + 1 ≠ B + 4; omega) _).congr fun q _ => upto_set' (fun i => Value.bool (D.ex i)) (fun _ => .bool false) j _ rfl q
  · exact (((((h.an.setOther (by show B + 2 ≠ B; omega) _).setOther (by show B + 2 ≠ B + 1; omega) _).set j _).setOther (by show B + 2 ≠ B + 3; omega) _).setOther (by show B + 2 ≠ B + 4; omega) _).congr fun q _ => upto_set' (fun i => Value.int .i64 (D.an i)) (fun _ => .int .i64 0) j _ rfl q
  · exact (((((h.ln.setOther (by show B + 3 ≠ B; omega) _).setOther (by show B + 3 ≠ B + 1; omega) _).setOther (by show B + 3 ≠ B + 2; omega) _).set j _).setOther (by show B + 3 ≠ B + 4; omega) _).congr fun q _ => upto_set' (fun i => Value.int .i64 (D.ln i)) (fun _ => .int .i64 0) j _ rfl q
  · exact (((((h.bf.setOther (by show B + 4 ≠ B; omega) _).setOther (by show B + 4 ≠ B + 1; omega) _).setOther (by show B + 4 ≠ B + 2; omega) _).setOther (by show B + 4 ≠ B + 3; omega) _).set j _).congr fun q _ => upto_set' (fun i => Value.int .i64 (D.bf i)) (fun _ => .int .i64 0) j _ rfl q

set_option maxRecDepth 100000 in
set_option maxHeartbeats 2000000 in
theorem splitTexts_any (ao : Option Addr) (n cap : Nat) (D : Desc) (w : World) (hT : Texts w ao n D) (hn : n ≤ 1048576) :
    Calls Try.prog 25 #[.slice ao n cap] w fun e w' => e = .returned (.tuple #[.slice (some ⟨w.heap.size, 0, none⟩) n n, .slice (some ⟨w.heap.size + 1, 0, none⟩) n n, .slice (some ⟨w.heap.size + 2, 0, none⟩) n n, .slice (some ⟨w.heap.size + 3, 0, none⟩) n n, .slice (some ⟨w.heap.size + 4, 0, none⟩) n n]) ∧ Sp w w' w.heap.size n D n ∧ Below w.heap.size w w' := by
  have hm1 := mk_row (P := Try.prog) 48 54 (.slice none 0 0) 24 Try.underlying48 Try.info54 rfl (n : Int) n rfl (by omega) (by omega)
  have hm2 := mk_row (P := Try.prog) 27 4 (.bool false) 1 Try.underlying27 Try.info4 rfl (n : Int) n rfl (by omega) (by omega)
  have hm3 := mk_row (P := Try.prog) 22 3 (.int .i64 0) 8 Try.underlying22 Try.info3 rfl (n : Int) n rfl (by omega) (by omega)
  go_enter Try.func25, Try.ntmps25
  go_wp2
  clear hm1 hm2 hm3
  go_loopg [13] n (fun k i w' => ∃ (j : Nat), j + k = n ∧ i = .int .i64 j ∧ Sp w w' w.heap.size n D j ∧ Below w.heap.size w w')
  case atStart => exact ⟨0, by omega, rfl, Sp.start w n D, (((((Below.refl _ _).alloc (Nat.le_refl _) _).alloc (by simp) _).alloc (by simp; omega) _).alloc (by simp; omega) _).alloc (by simp; omega) _⟩
  case round =>
    obtain ⟨j, hj, rfl, hS, hbel⟩ := hrel
    by_cases hlt : j < n
    · obtain ⟨b, o, rfl, hrow⟩ := hT.row (by omega)
      obtain ⟨A, c, c0, c1, c2, c3, c4, hA0, hP⟩ := hrow j hlt
      have hb := World.block_lt_of_cell? w _ c0
      have hb : b < w.heap.size := hb
      have d0 := cell_below hbel c0
      have d1 := cell_below hbel c1
      have d2 := cell_below hbel c2
      have d3 := cell_below hbel c3
      have d4 := cell_below hbel c4
      have HE := hS.step (c := c) hP
      obtain ⟨f, hr, _⟩ := hS.ps
      have r0 := hr.cell hlt
      have r1 := hS.xs.cell hlt
      have r2 := hS.an.cell hlt
      have r3 := hS.ln.cell hlt
      have r4 := hS.bf.cell hlt
      rw [if_neg (Nat.lt_irrefl j)] at r1 r2 r3 r4
      have f0 := hr.frozen j
      have f1 := hS.xs.frozen j
      have f2 := hS.an.frozen j
      have f3 := hS.ln.frozen j
      have f4 := hS.bf.frozen j
      have HE' : Hid (Sp w (((((wr.setCell ⟨w.heap.size, j, none⟩ (.slice A (D.m j) c)).setCell ⟨w.heap.size + 1, j, none⟩ (.bool (D.ex j))).setCell ⟨w.heap.size + 2, j, none⟩ (.int .i64 (D.an j))).setCell ⟨w.heap.size + 3, j, none⟩ (.int .i64 (D.ln j))).setCell ⟨w.heap.size + 4, j, none⟩ (.int .i64 (D.bf j))) w.heap.size n D (j + 1)) := HE
      clear hT hrow hP hA0 c0 c1 c2 c3 c4 HE
      go_wp2
      go_roundg (gk - 1)
      case measure => omega
      case rel => exact ⟨j + 1, by omega, by go_num, HE'.out, ((((hbel.setCell (Nat.le_refl _) _).setCell (by show w.heap.size ≤ w.heap.size + 1; omega) _).setCell (by show w.heap.size ≤ w.heap.size + 2; omega) _).setCell (by show w.heap.size ≤ w.heap.size + 3; omega) _).setCell (by show w.heap.size ≤ w.heap.size + 4; omega) _⟩
    · obtain rfl : n = j := by omega
      go_wp2
      refine bodyPost_ret (v := .tuple #[.slice (some ⟨w.heap.size, 0, none⟩) n n, .slice (some ⟨w.heap.size + 1, 0, none⟩) n n, .slice (some ⟨w.heap.size + 2, 0, none⟩) n n, .slice (some ⟨w.heap.size + 3, 0, none⟩) n n, .slice (some ⟨w.heap.size + 4, 0, none⟩) n n]) ?_ rfl ⟨rfl, hS, hbel⟩
      simp [results, Try.results25, go_sem]

end Go.Proofs.Qxb6602406a
