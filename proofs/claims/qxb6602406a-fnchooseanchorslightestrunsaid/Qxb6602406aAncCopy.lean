/-
  Seat b6602406a: the walk of copyTexts.
-/
import Derived.Test.Qxb6602406aAncMem
namespace Go.Proofs.Qxb6602406a
open Go.RowKit

theorem Try.info9 : (Try.prog.info? 9).map (fun i => (i.zero, i.size, i.bytes)) = some (some (.string ByteArray.empty), 1, 16) := by kernel_rfl
theorem Try.info56 : (Try.prog.info? 56).map (fun i => (i.zero, i.size, i.bytes)) = some (some (.agg #[.slice none 0 0, .bool false, .int .i64 0, .int .i64 0, .int .i64 0]), 5, 56) := by kernel_rfl

/-- The pieces of a copied text: nil, or a row of their own from block B + 1 on. -/
def OwnPcs (w : World) (B : Nat) (A : Option Addr) (m : Nat) (S : Nat → ByteArray) : Prop :=
  (A = none ∧ m = 0) ∨ ∃ g, A = some ⟨g, 0, none⟩ ∧ B < g ∧ w.rowIs g 9 m (fun k => .string (S k))

/-- Of the copy at block B the first j texts are laid. -/
structure Cp (w wr : World) (n : Nat) (D : Desc) (j : Nat) : Prop where
  row : ∃ f, wr.rowIs w.heap.size 56 (n * 5) f ∧ ∀ i, i < j → ∃ A c, f (i * 5) = .slice A (D.m i) c ∧ f (i * 5 + 1) = .bool (D.ex i) ∧ f (i * 5 + 2) = .int .i64 (D.an i) ∧ f (i * 5 + 3) = .int .i64 (D.ln i) ∧ f (i * 5 + 4) = .int .i64 (D.bf i) ∧ OwnPcs wr w.heap.size A (D.m i) (D.S i) ∧ D.m i ≤ c
  bel : Below w.heap.size w wr

theorem OwnPcs.below {w w' : World} {B : Nat} {A : Option Addr} {m : Nat} {S : Nat → ByteArray} (h : OwnPcs w B A m S) (hb : Below w.heap.size w w') : OwnPcs w' B A m S := by
  rcases h with h | ⟨g, h1, h2, h3⟩
  · exact .inl h
  · exact .inr ⟨g, h1, h2, h3.of_block (hb.block _ h3.lt)⟩
theorem OwnPcs.setB {w : World} {B o : Nat} {A : Option Addr} {m : Nat} {S : Nat → ByteArray} (h : OwnPcs w B A m S) (v : Value) : OwnPcs (w.setCell ⟨B, o, none⟩ v) B A m S := by
  rcases h with h | ⟨g, h1, h2, h3⟩
  · exact .inl h
  · exact .inr ⟨g, h1, h2, h3.setOther (by show g ≠ B; omega) _⟩
theorem OwnPcs.pcs {w : World} {B : Nat} {A : Option Addr} {m : Nat} {S : Nat → ByteArray} (h : OwnPcs w B A m S) : (A = none → m = 0) ∧ Pcs w A m S := by
  rcases h with ⟨h1, h2⟩ | ⟨g, h1, h2, h3⟩
  · exact ⟨fun _ => h2, .inl h2⟩
  · exact ⟨fun e => (by rw [h1] at e; cases e), .inr ⟨g, 0, h1, fun k hk => by rw [Nat.zero_add]; exact h3.cell hk⟩⟩

theorem Cp.start (w : World) (n : Nat) (D : Desc) (c : Array Value) (hc : c.size = n * 5) : Cp w (w.alloc (.cells c 56)) n D 0 := by
  refine ⟨⟨_, hc ▸ World.rowIs_alloc w c 56 (fun i => c.getD i undef) (fun i hi => by simp [Array.getD, hi]), fun i hi => by omega⟩, (Below.refl _ _).alloc (Nat.le_refl _) _⟩

theorem Cp.step {w wr w2 : World} {n : Nat} {D : Desc} {j : Nat} {A : Option Addr} {c : Nat} (h : Cp w wr n D j) (hb : Below wr.heap.size wr w2) (hp : OwnPcs w2 w.heap.size A (D.m j) (D.S j)) (hc : D.m j ≤ c) :
    Cp w (((((w2.setCell ⟨w.heap.size, j * 5, none⟩ (.slice A (D.m j) c)).setCell ⟨w.heap.size, j * 5 + 1, none⟩ (.bool (D.ex j))).setCell ⟨w.heap.size, j * 5 + 2, none⟩ (.int .i64 (D.an j))).setCell ⟨w.heap.size, j * 5 + 3, none⟩ (.int .i64 (D.ln j))).setCell ⟨w.heap.size, j * 5 + 4, none⟩ (.int .i64 (D.bf j))) n D (j + 1) := by
  obtain ⟨f, hr, hf⟩ := h.row
  have hr2 := hr.of_block (hb.block _ hr.lt)
  have hsz := h.bel.size
  refine ⟨⟨_, ((((hr2.set _ _).set _ _).set _ _).set _ _).set _ _, fun i hi => ?_⟩, ?_⟩
  · by_cases e : i = j
    · subst e
      refine ⟨A, c, ?_, ?_, ?_, ?_, ?_, ((((hp.setB _).setB _).setB _).setB _).setB _, hc⟩
      · rw [if_neg (by omega), if_neg (by omega), if_neg (by omega), if_neg (by omega), if_pos rfl]
      · rw [if_neg (by omega), if_neg (by omega), if_neg (by omega), if_pos rfl]
      · rw [if_neg (by omega), if_neg (by omega), if_pos rfl]
      · rw [if_neg (by omega), if_pos rfl]
      · rw [if_pos rfl]
    · obtain ⟨A', c', f0, f1, f2, f3, f4, fp, fc⟩ := hf i (by omega)
      refine ⟨A', c', ?_, ?_, ?_, ?_, ?_, (((((fp.below hb).setB _).setB _).setB _).setB _).setB _, fc⟩
      · rw [if_neg (by omega), if_neg (by omega), if_neg (by omega), if_neg (by omega), if_neg (by omega)]; exact f0
      · rw [if_neg (by omega), if_neg (by omega), if_neg (by omega), if_neg (by omega), if_neg (by omega)]; exact f1
      · rw [if_neg (by omega), if_neg (by omega), if_neg (by omega), if_neg (by omega), if_neg (by omega)]; exact f2
      · rw [if_neg (by omega), if_neg (by omega), if_neg (by omega), if_neg (by omega), if_neg (by omega)]; exact f3
      · rw [if_neg (by omega), if_neg (by omega), if_neg (by omega), if_neg (by omega), if_neg (by omega)]; exact f4
  · exact (((((h.bel.trans (hb.mono hsz)).setCell (Nat.le_refl _) _).setCell (Nat.le_refl _) _).setCell (Nat.le_refl _) _).setCell (Nat.le_refl _) _).setCell (Nat.le_refl _) _

theorem Cp.drew {w wr : World} {n : Nat} {D : Desc} {j : Nat} (h : Cp w wr n D j) : Cp w wr.drew n D j := ⟨h.row, h.bel.drew⟩

theorem Cp.done {w wr : World} {n : Nat} {D : Desc} (h : Cp w wr n D n) : TextRow wr w.heap.size 0 n D := by
  obtain ⟨f, hr, hf⟩ := h.row
  intro i hi
  obtain ⟨A, c, f0, f1, f2, f3, f4, fp, _⟩ := hf i hi
  refine ⟨A, c, ?_, ?_, ?_, ?_, ?_, fp.pcs.1, fp.pcs.2⟩
  · rw [Nat.zero_add, hr.cell (by omega), f0]
  · rw [Nat.zero_add, hr.cell (by omega), f1]
  · rw [Nat.zero_add, hr.cell (by omega), f2]
  · rw [Nat.zero_add, hr.cell (by omega), f3]
  · rw [Nat.zero_add, hr.cell (by omega), f4]

/-- Each text's pieces have room for their length. -/
def Caps (w : World) (ao : Option Addr) (n : Nat) (D : Desc) : Prop := ∀ b o, ao = some ⟨b, o, none⟩ → ∀ i, i < n → ∃ A c, w.cell? ⟨b, o + i * 5, none⟩ = some (.slice A (D.m i) c) ∧ D.m i ≤ c
theorem Cp.caps {w wr : World} {n : Nat} {D : Desc} (h : Cp w wr n D n) : Caps wr (some ⟨w.heap.size, 0, none⟩) n D := by
  intro b o e i hi
  injection e with e
  injection e with e1 e2
  subst e1 e2
  obtain ⟨f, hr, hf⟩ := h.row
  obtain ⟨A, c, f0, _, _, _, _, _, fc⟩ := hf i hi
  exact ⟨A, c, by rw [Nat.zero_add, hr.cell (by omega), f0], fc⟩

set_option maxRecDepth 100000 in
set_option maxHeartbeats 2000000 in
theorem copyTexts_any (ao : Option Addr) (n cap : Nat) (D : Desc) (w : World) (hT : Texts w ao n D) (hL : Lens n D) (hao : ao = none → cap = 0) :
    Calls Try.prog 24 #[.slice ao n cap] w fun e w' => ∃ ao' c', e = .returned (.slice ao' n c') ∧ Texts w' ao' n D ∧ Below w.heap.size w w' ∧ Caps w' ao' n D := by
  have HL : Hid (∀ i, i < n → D.m i ≤ 1048576 ∧ ∀ k, k < D.m i → (D.S i k).size ≤ 1048576) := hL.2
  have hn := hL.1
  clear hL
  cases ao with
  | none =>
    have hcap := hao rfl
    subst hcap
    clear hao
    have hnil := fun w => Lib.run_eql_slice_nil (P := Try.prog) w 44 56 none n 0 0 0 Try.underlying44
    have hn0 : n = 0 := by
      rcases hT with h | ⟨b, o, h, _⟩
      · exact h
      · cases h
    subst hn0
    go_enter Try.func24, Try.ntmps24
    go_wp2
    go_ret
    exact ⟨none, 0, rfl, .inl rfl, Below.refl _ _, fun b o e => (by cases e)⟩
  | some x =>
    clear hao
    have hnil := fun w => Lib.run_eql_slice_nil (P := Try.prog) w 44 56 (some x) n cap 0 0 Try.underlying44
    have hmk := mk_rows (P := Try.prog) 44 56 (.agg #[.slice none 0 0, .bool false, .int .i64 0, .int .i64 0, .int .i64 0]) 5 56 Try.underlying44 Try.info56 (n : Int) n rfl (by omega) (by omega)
    go_enter Try.func24, Try.ntmps24
    go_wp2
    clear hmk hnil
    go_loopg [4] n (fun k i w' => ∃ (j : Nat), j + k = n ∧ i = .int .i64 j ∧ Cp w w' n D j)
    case atStart => exact ⟨0, by omega, rfl, Cp.start w n D _ (size_madeCells _ _)⟩
    case round =>
      obtain ⟨j, hj, rfl, hC⟩ := hrel
      by_cases hlt : j < n
      · obtain ⟨b, o, hx, hrow⟩ := hT.row (by omega)
        injection hx with hx
        subst hx
        obtain ⟨A, c, c0, c1, c2, c3, c4, hA0, hP⟩ := hrow j hlt
        have hb := World.block_lt_of_cell? w _ c0
        have d0 := cell_below hC.bel c0
        have d1 := cell_below hC.bel c1
        have d2 := cell_below hC.bel c2
        have d3 := cell_below hC.bel c3
        have d4 := cell_below hC.bel c4
        have hmj := (HL.out j hlt).1
        have hnil := fun w => run_neq_slice_nil_any (P := Try.prog) w 54 9 A (D.m j) c 0 0 Try.underlying54
        have hsz := hC.bel.size
        have HP : Hid (Pcs w A (D.m j) (D.S j)) := hP
        clear hT hrow hP c0 c1 c2 c3 c4
        cases A with
        | none =>
          have HA : Hid (D.m j = 0) := hA0 rfl
          clear hA0
          obtain ⟨f, hr, hf⟩ := hC.row
          have r0 := hr.cell (i := j * 5) (by omega)
          have r1 := hr.cell (i := j * 5 + 1) (by omega)
          have r2 := hr.cell (i := j * 5 + 2) (by omega)
          have r3 := hr.cell (i := j * 5 + 3) (by omega)
          have r4 := hr.cell (i := j * 5 + 4) (by omega)
          have rf := fun i => hr.frozen i
          have HE : Hid (Cp w (((((wr.setCell ⟨w.heap.size, j * 5, none⟩ (.slice none 0 0)).setCell ⟨w.heap.size, j * 5 + 1, none⟩ (.bool (D.ex j))).setCell ⟨w.heap.size, j * 5 + 2, none⟩ (.int .i64 (D.an j))).setCell ⟨w.heap.size, j * 5 + 3, none⟩ (.int .i64 (D.ln j))).setCell ⟨w.heap.size, j * 5 + 4, none⟩ (.int .i64 (D.bf j))) n D (j + 1)) := by
            have h := hC.step (c := 0) (Below.refl _ _) (.inl ⟨rfl, HA.out⟩) (by rw [HA.out]; exact Nat.le_refl _)
            rw [HA.out] at h
            exact h
          clear hf
          go_wp2
          go_region
          go_wp2
          go_roundg (gk - 1)
          case measure => omega
          case rel => exact ⟨j + 1, by omega, by go_num, HE.out.drew⟩
        | some y =>
          clear hA0
          have hmk := mk_row (P := Try.prog) 54 9 (.string ByteArray.empty) 16 Try.underlying54 Try.info9 rfl (D.m j : Int) (D.m j) rfl (by omega) (by omega)
          rename World => w1
          go_wp2
          clear hmk hnil
          go_loopg [6] (D.m j) (fun k i w' => ∃ (q : Nat), q + k = D.m j ∧ i = .int .i64 q ∧ w'.rowIs w1.heap.size 9 (D.m j) (fun t => if t < q then .string (D.S j t) else .string ByteArray.empty) ∧ Below w1.heap.size w1 w')
          case atStart => exact ⟨0, by omega, rfl, (World.rowIs_made w1 (.string ByteArray.empty) (D.m j) 9).congr (fun t _ => by simp), (Below.refl _ _).alloc (Nat.le_refl _) _⟩
          case round =>
            obtain ⟨q, hq, rfl, hrow, hb2⟩ := hrel
            have e0 := (hb2.cell (p := ⟨b, o + j * 5, none⟩) (by show b < w1.heap.size; omega)).trans d0
            by_cases hqm : q < D.m j
            · obtain ⟨pb, po, hy, hpc⟩ := HP.out.row (by omega)
              injection hy with hy
              subst hy
              have hpb := World.block_lt_of_cell? w _ (hpc q hqm)
              have cq := (hb2.cell (p := ⟨pb, po + q, none⟩) (by show pb < w1.heap.size; exact Nat.lt_of_lt_of_le hpb hsz)).trans (cell_below hC.bel (hpc q hqm))
              have hold := hrow.cell hqm
              rw [if_neg (Nat.lt_irrefl q)] at hold
              have hfro := hrow.frozen q
              have HE : Hid ((wr.setCell ⟨w1.heap.size, q, none⟩ (.string (D.S j q))).rowIs w1.heap.size 9 (D.m j) (fun t => if t < q + 1 then .string (D.S j t) else .string ByteArray.empty)) := (hrow.set q _).congr fun t _ => by
                by_cases h1 : t = q
                · subst h1; rw [if_pos rfl, if_pos (by omega)]
                · by_cases h2 : t < q
                  · rw [if_neg h1, if_pos h2, if_pos (by omega)]
                  · rw [if_neg h1, if_neg h2, if_neg (by omega)]
              clear hpc
              go_wp2
              go_roundg (gk - 1)
              case measure => omega
              case rel => exact ⟨q + 1, by omega, by go_num, HE.out, hb2.setCell (Nat.le_refl _) _⟩
            · obtain rfl : D.m j = q := by omega
              obtain ⟨f, hr1, hf⟩ := hC.row
              have hr := hr1.of_block (hb2.block _ hr1.lt)
              have r0 := hr.cell (i := j * 5) (by omega)
              have r1 := hr.cell (i := j * 5 + 1) (by omega)
              have r2 := hr.cell (i := j * 5 + 2) (by omega)
              have r3 := hr.cell (i := j * 5 + 3) (by omega)
              have r4 := hr.cell (i := j * 5 + 4) (by omega)
              have rf := fun i => hr.frozen i
              have e1 := (hb2.cell (p := ⟨b, o + j * 5 + 1, none⟩) (by show b < w1.heap.size; omega)).trans d1
              have e2 := (hb2.cell (p := ⟨b, o + j * 5 + 2, none⟩) (by show b < w1.heap.size; omega)).trans d2
              have e3 := (hb2.cell (p := ⟨b, o + j * 5 + 3, none⟩) (by show b < w1.heap.size; omega)).trans d3
              have e4 := (hb2.cell (p := ⟨b, o + j * 5 + 4, none⟩) (by show b < w1.heap.size; omega)).trans d4
              have HE : Hid (Cp w (((((wr.setCell ⟨w.heap.size, j * 5, none⟩ (.slice (some ⟨w1.heap.size, 0, none⟩) (D.m j) (D.m j))).setCell ⟨w.heap.size, j * 5 + 1, none⟩ (.bool (D.ex j))).setCell ⟨w.heap.size, j * 5 + 2, none⟩ (.int .i64 (D.an j))).setCell ⟨w.heap.size, j * 5 + 3, none⟩ (.int .i64 (D.ln j))).setCell ⟨w.heap.size, j * 5 + 4, none⟩ (.int .i64 (D.bf j))) n D (j + 1)) :=
                hC.step hb2 (.inr ⟨w1.heap.size, rfl, by have := hr1.lt; omega, hrow.congr fun t ht => by rw [if_pos ht]⟩) (Nat.le_refl _)
              clear hf hr1
              go_wp2
              go_region
              go_wp2
              go_roundg (n - (j + 1))
              case measure => omega
              case rel => exact ⟨j + 1, by omega, by go_num, HE.out.drew⟩
      · obtain rfl : n = j := by omega
        go_wp2
        go_ret
        exact ⟨_, _, rfl, .inr ⟨w.heap.size, 0, rfl, hC.done⟩, hC.bel, hC.caps⟩

end Go.Proofs.Qxb6602406a
