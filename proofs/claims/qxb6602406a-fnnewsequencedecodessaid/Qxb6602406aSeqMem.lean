/-
  Seat b6602406a: what memory holds at the heads of NewSequence's three loops, and what each round does to it.
-/
import Derived.Test.Qxb6602406aOwn
import Derived.Test.Qxb6602406aMath
namespace Go.Proofs.Qxb6602406a
open Go.RowKit

/-- The seven cells of a Sequence. -/
def seqCells (W lw : Nat) (lb : Int) (ev cls den spr : Value) : Nat → Value
  | 0 => .int .i64 W
  | 1 => ev
  | 2 => .int .i64 lw
  | 3 => .int .u64 lb
  | 4 => cls
  | 5 => den
  | _ => spr

/-- Loop 1's memory: the struct at S, 'every' at S + 1, the counts behind. -/
structure L1 (w wr : World) (n : Nat) (z : Nat → Int) (j : Nat) (v : Value) : Prop where
  cnts : Own wr (w.heap.size + 2) 3 v (top z j) (fun c => .int .i64 (cnt z j c))
  st : wr.rowIs w.heap.size 63 7 (seqCells ((n - 1) / 64 + 1) ((n - 1) / 64) (IntKind.u64.wrap (2 ^ ((n - 1) % 64))) (.slice (some ⟨w.heap.size + 1, 0, none⟩) ((n - 1) / 64 + 1) ((n - 1) / 64 + 1)) (.slice none 0 0) (.slice none 0 0) (.slice none 0 0))
  ev : wr.rowIs (w.heap.size + 1) 26 ((n - 1) / 64 + 1) (fun _ => .int .u64 0)
  bel : Below w.heap.size w wr

theorem L1.start (w : World) (n : Nat) (z : Nat → Int) (hn : 0 < n) : L1 w ((w.alloc
      (Obj.cells
        #[Value.int IntKind.i64 (((n : Int) - 1) / 64 + 1),
          Value.slice (some { block := w.heap.size + 1, off := 0 }) ((n - 1) / 64 + 1) ((n - 1) / 64 + 1),
          Value.int IntKind.i64 (((n : Int) - 1) / 64), Value.int IntKind.u64 (IntKind.u64.wrap (2 ^ ((n - 1) % 64))),
          Value.slice none 0 0, Value.slice none 0 0, Value.slice none 0 0]
        63)).alloc
  (Obj.cells (madeCells #[Value.int IntKind.u64 0] ((n - 1) / 64 + 1)) 26)) n z 0 (.slice none 0 0) := by
  refine ⟨Own.nil _ _ _ _, ?_, ?_, ?_⟩
  · refine World.rowIs.alloc ?_ _
    refine World.rowIs_alloc _ _ _ _ ?_
    intro i hi
    match i, hi with
    | 0, _ => simp [seqCells]; omega
    | 1, _ => rfl
    | 2, _ => simp [seqCells]; omega
    | 3, _ => rfl
    | 4, _ => rfl
    | 5, _ => rfl
    | 6, _ => rfl
  · have := World.rowIs_made (w.alloc
      (Obj.cells
        #[Value.int IntKind.i64 (((n : Int) - 1) / 64 + 1),
          Value.slice (some { block := w.heap.size + 1, off := 0 }) ((n - 1) / 64 + 1) ((n - 1) / 64 + 1),
          Value.int IntKind.i64 (((n : Int) - 1) / 64), Value.int IntKind.u64 (IntKind.u64.wrap (2 ^ ((n - 1) % 64))),
          Value.slice none 0 0, Value.slice none 0 0, Value.slice none 0 0]
        63)) (Value.int IntKind.u64 0) ((n - 1) / 64 + 1) 26
    simpa using this
  · exact ((Below.refl _ _).alloc (Nat.le_refl _) _).alloc (by simp) _

theorem L1.same {w wr : World} {n : Nat} {z : Nat → Int} {j : Nat} {v : Value} (h : L1 w wr n z j v) (hz : z j < 0) : L1 w wr n z (j + 1) v := by
  refine ⟨?_, h.st, h.ev, h.bel⟩
  rw [top_neg z j hz]
  exact h.cnts.congr fun c _ => by rw [cnt_succ_ne z j c (by omega)]

theorem L1.hit {w wr : World} {n : Nat} {z : Nat → Int} {j c g cap : Nat} (h : L1 w wr n z j (.slice (some ⟨g, 0, none⟩) (top z j) cap)) (hz : z j = c) (hc : c < top z j) (hg : w.heap.size + 2 ≤ g) :
    L1 w (wr.setCell ⟨g, c, none⟩ (.int .i64 ((cnt z j c : Int) + 1))) n z (j + 1) (.slice (some ⟨g, 0, none⟩) (top z j) cap) := by
  refine ⟨?_, h.st.setOther (by show w.heap.size ≠ g; omega) _, h.ev.setOther (by show w.heap.size + 1 ≠ g; omega) _, h.bel.setCell (by show w.heap.size ≤ g; omega) _⟩
  have e : top z (j + 1) = top z j := top_lt z j (by omega)
  rw [e]
  refine (h.cnts.set c _).congr fun i _ => ?_
  by_cases hi : i = c
  · subst hi
    rw [if_pos rfl]
    show _ = Value.int IntKind.i64 ((cnt z j i + if z j = i then 1 else 0 : Nat) : Int)
    rw [if_pos hz]
    rfl
  · rw [if_neg hi, cnt_succ_ne z j i (by omega)]

theorem L1.grow {w wr w' : World} {n : Nat} {z : Nat → Int} {j c g cap : Nat} {v : Value} (h : L1 w wr n z j v) (m : Nat) (hm : top z j + m = c + 1)
    (hown : w'.ownsRow (w.heap.size + 2) 3 1 (.slice (some ⟨g, 0, none⟩) (top z j + m) cap) (top z j + m) ((List.range (top z j)).map (fun c : Nat => Value.int .i64 (cnt z j c)) ++ List.replicate m (.int .i64 0))) (hgr : wr.grownBy w' v.ownBlock) :
    Own w' (w.heap.size + 2) 3 (.slice (some ⟨g, 0, none⟩) (c + 1) cap) (c + 1) (fun c => .int .i64 (cnt z j c)) ∧
    w'.rowIs w.heap.size 63 7 (seqCells ((n - 1) / 64 + 1) ((n - 1) / 64) (IntKind.u64.wrap (2 ^ ((n - 1) % 64))) (.slice (some ⟨w.heap.size + 1, 0, none⟩) ((n - 1) / 64 + 1) ((n - 1) / 64 + 1)) (.slice none 0 0) (.slice none 0 0) (.slice none 0 0)) ∧
    w'.rowIs (w.heap.size + 1) 26 ((n - 1) / 64 + 1) (fun _ => .int .u64 0) ∧ Below w.heap.size w w' := by
  have hob : ∀ k, v.ownBlock = some k → w.heap.size + 2 ≤ k := fun k hk => (World.ownsRow.lt h.cnts k hk).1
  refine ⟨?_, ?_, ?_, ?_⟩
  · have := Own.more (g := fun c : Nat => Value.int .i64 (cnt z j c)) hown (fun _ _ => rfl) (fun i h1 _ => by rw [cnt_top z j i h1]; rfl)
    rwa [hm] at this
  · exact h.st.of_block (hgr.block _ h.st.lt (fun e => by have := hob _ e.symm; omega))
  · exact h.ev.of_block (hgr.block _ h.ev.lt (fun e => by have := hob _ e.symm; omega))
  · exact h.bel.grown hgr h.bel.size (fun k hk => by have := hob _ hk; omega)

theorem L1.grown {w w' : World} {n : Nat} {z : Nat → Int} {j c g cap : Nat} (hz : z j = c) (hc : top z j ≤ c) (hg : w.heap.size + 2 ≤ g)
    (h : Own w' (w.heap.size + 2) 3 (.slice (some ⟨g, 0, none⟩) (c + 1) cap) (c + 1) (fun c => .int .i64 (cnt z j c)) ∧
    w'.rowIs w.heap.size 63 7 (seqCells ((n - 1) / 64 + 1) ((n - 1) / 64) (IntKind.u64.wrap (2 ^ ((n - 1) % 64))) (.slice (some ⟨w.heap.size + 1, 0, none⟩) ((n - 1) / 64 + 1) ((n - 1) / 64 + 1)) (.slice none 0 0) (.slice none 0 0) (.slice none 0 0)) ∧
    w'.rowIs (w.heap.size + 1) 26 ((n - 1) / 64 + 1) (fun _ => .int .u64 0) ∧ Below w.heap.size w w') :
    L1 w (w'.setCell ⟨g, c, none⟩ (.int .i64 ((cnt z j c : Int) + 1))) n z (j + 1) (.slice (some ⟨g, 0, none⟩) (c + 1) cap) := by
  obtain ⟨h1, h2, h3, h4⟩ := h
  refine ⟨?_, h2.setOther (by show w.heap.size ≠ g; omega) _, h3.setOther (by show w.heap.size + 1 ≠ g; omega) _, h4.setCell (by show w.heap.size ≤ g; omega) _⟩
  rw [top_ge z j c hz hc]
  refine (h1.set c _).congr fun i _ => ?_
  by_cases hi : i = c
  · subst hi
    rw [if_pos rfl]
    show _ = Value.int IntKind.i64 ((cnt z j i + if z j = i then 1 else 0 : Nat) : Int)
    rw [if_pos hz]
    rfl
  · rw [if_neg hi, cnt_succ_ne z j i (by omega)]


theorem rowIs_any (w : World) (c : Array Value) (t : TypeId) : (w.alloc (.cells c t)).rowIs w.heap.size t c.size (fun i => c.getD i undef) :=
  World.rowIs_alloc w c t _ fun i hi => by simp [Array.getD, hi]

/-- Loop 2's memory: besides, the positions' row at P; the sets, all zero, behind it. -/
structure L2 (w wr : World) (n W : Nat) (z : Nat → Int) (P : Nat) (vc vd : Value) (c d : Nat) : Prop where
  cnts : Own wr (w.heap.size + 2) 3 vc (top z n) (fun c => .int .i64 (cnt z n c))
  st : wr.rowIs w.heap.size 63 7 (seqCells W ((n - 1) / 64) (IntKind.u64.wrap (2 ^ ((n - 1) % 64))) (.slice (some ⟨w.heap.size + 1, 0, none⟩) W W) (.slice (some ⟨P, 0, none⟩) (top z n) (top z n)) vd (.slice none 0 0))
  ev : wr.rowIs (w.heap.size + 1) 26 W (fun _ => .int .u64 0)
  pos : ∃ f, wr.rowIs P 65 (top z n * 3) f ∧ ∀ q, q < c → f (q * 3) = .bool (den z n W q) ∧ f (q * 3 + 1) = .int .i64 (frm z n W q) ∧ f (q * 3 + 2) = .int .i64 (til z n W 0 q)
  dn : Own wr (P + 1) 26 vd (du z n W d * W) (fun _ => .int .u64 0)
  bel : Below w.heap.size w wr
  lo : w.heap.size + 2 ≤ P
  hi : P < wr.heap.size
  apart : ∀ k, vc.ownBlock = some k → k < P

theorem L2.start {w wr : World} {n W : Nat} {z : Nat → Int} {v : Value} (hW : W = (n - 1) / 64 + 1) (h : L1 w wr n z n v) (c : Array Value) (hc : c.size = top z n * 3) :
    L2 w ((wr.setCell ⟨w.heap.size, 4, none⟩ (.slice (some ⟨wr.heap.size, 0, none⟩) (top z n) (top z n))).alloc (.cells c 65)) n W z wr.heap.size v (.slice none 0 0) 0 0 := by
  subst hW
  have hsz := h.ev.lt
  have hob := World.ownsRow.lt h.cnts
  have hs' : (wr.setCell ⟨w.heap.size, 4, none⟩ (.slice (some ⟨wr.heap.size, 0, none⟩) (top z n) (top z n))).heap.size = wr.heap.size := by simp [World.setCell]
  refine ⟨?_, ?_, ?_, ?_, ?_, ?_, by omega, by simp, fun k hk => (hob k hk).2⟩
  · exact (h.cnts.setOther (fun e => by have := hob _ e; simp at this; omega) _).alloc _
  · refine ((h.st.set 4 _).alloc _).congr fun i hi => ?_
    match i, hi with
    | 0, _ => rfl
    | 1, _ => rfl
    | 2, _ => rfl
    | 3, _ => rfl
    | 4, _ => rfl
    | 5, _ => rfl
    | 6, _ => rfl
  · exact (h.ev.setOther (by show w.heap.size + 1 ≠ w.heap.size; omega) _).alloc _
  · have := rowIs_any (wr.setCell ⟨w.heap.size, 4, none⟩ (.slice (some ⟨wr.heap.size, 0, none⟩) (top z n) (top z n))) c 65
    rw [hs', hc] at this
    exact ⟨_, this, fun q hq => by omega⟩
  · simp only [du, Nat.zero_mul]; exact Own.nil _ _ _ _
  · exact (h.bel.setCell (Nat.le_refl _) _).alloc (by rw [hs']; exact h.bel.size) _

theorem L2.drew {w wr : World} {n W : Nat} {z : Nat → Int} {P : Nat} {vc vd : Value} {c d : Nat} (h : L2 w wr n W z P vc vd c d) : L2 w wr.drew n W z P vc vd c d :=
  ⟨h.cnts, h.st, h.ev, h.pos, h.dn, h.bel.drew, h.lo, h.hi, h.apart⟩

/-- A class's three cells are laid. -/
theorem L2.put {w wr : World} {n W : Nat} {z : Nat → Int} {P : Nat} {vc vd : Value} {c d : Nat} (h : L2 w wr n W z P vc vd c d) (a0 a1 a2 : Value)
    (e0 : a0 = .bool (den z n W c)) (e1 : a1 = .int .i64 (frm z n W c)) (e2 : a2 = .int .i64 (til z n W 0 c)) :
    L2 w (((wr.setCell ⟨P, c * 3, none⟩ a0).setCell ⟨P, c * 3 + 1, none⟩ a1).setCell ⟨P, c * 3 + 2, none⟩ a2) n W z P vc vd (c + 1) d := by
  have hlo := h.lo
  have hvc : vc.ownBlock ≠ some P := fun e => by have := h.apart P e; omega
  have hvd : vd.ownBlock ≠ some P := fun e => by have := World.ownsRow.lt h.dn P e; omega
  obtain ⟨f, hp, hf⟩ := h.pos
  refine ⟨((h.cnts.setOther hvc _).setOther hvc _).setOther hvc _, ?_, ?_, ?_, ((h.dn.setOther hvd _).setOther hvd _).setOther hvd _, ((h.bel.setCell (by show w.heap.size ≤ P; omega) _).setCell (by show w.heap.size ≤ P; omega) _).setCell (by show w.heap.size ≤ P; omega) _, hlo, by simpa [World.setCell] using h.hi, h.apart⟩
  · exact ((h.st.setOther (by show w.heap.size ≠ P; omega) _).setOther (by show w.heap.size ≠ P; omega) _).setOther (by show w.heap.size ≠ P; omega) _
  · exact ((h.ev.setOther (by show w.heap.size + 1 ≠ P; omega) _).setOther (by show w.heap.size + 1 ≠ P; omega) _).setOther (by show w.heap.size + 1 ≠ P; omega) _
  · refine ⟨_, ((hp.set _ _).set _ _).set _ _, fun q hq => ?_⟩
    by_cases hqc : q = c
    · subst hqc
      refine ⟨?_, ?_, ?_⟩
      · show (if q * 3 = q * 3 + 2 then a2 else if q * 3 = q * 3 + 1 then a1 else if q * 3 = q * 3 then a0 else f (q * 3)) = _
        rw [if_neg (by omega), if_neg (by omega), if_pos rfl, e0]
      · show (if q * 3 + 1 = q * 3 + 2 then a2 else if q * 3 + 1 = q * 3 + 1 then a1 else if q * 3 + 1 = q * 3 then a0 else f (q * 3 + 1)) = _
        rw [if_neg (by omega), if_pos rfl, e1]
      · show (if q * 3 + 2 = q * 3 + 2 then a2 else if q * 3 + 2 = q * 3 + 1 then a1 else if q * 3 + 2 = q * 3 then a0 else f (q * 3 + 2)) = _
        rw [if_pos rfl, e2]
    · obtain ⟨f0, f1, f2⟩ := hf q (by omega)
      refine ⟨?_, ?_, ?_⟩
      · show (if q * 3 = c * 3 + 2 then a2 else if q * 3 = c * 3 + 1 then a1 else if q * 3 = c * 3 then a0 else f (q * 3)) = _
        rw [if_neg (by omega), if_neg (by omega), if_neg (by omega), f0]
      · show (if q * 3 + 1 = c * 3 + 2 then a2 else if q * 3 + 1 = c * 3 + 1 then a1 else if q * 3 + 1 = c * 3 then a0 else f (q * 3 + 1)) = _
        rw [if_neg (by omega), if_neg (by omega), if_neg (by omega), f1]
      · show (if q * 3 + 2 = c * 3 + 2 then a2 else if q * 3 + 2 = c * 3 + 1 then a1 else if q * 3 + 2 = c * 3 then a0 else f (q * 3 + 2)) = _
        rw [if_neg (by omega), if_neg (by omega), if_neg (by omega), f2]

theorem L2.skip {w wr : World} {n W : Nat} {z : Nat → Int} {P : Nat} {vc vd : Value} {c d : Nat} (h : L2 w wr n W z P vc vd c d) (hd : den z n W d = false) : L2 w wr n W z P vc vd c (d + 1) :=
  ⟨h.cnts, h.st, h.ev, h.pos, by rw [du_same z n W d hd]; exact h.dn, h.bel, h.lo, h.hi, h.apart⟩

theorem L2.grow {w wr w1 : World} {n W : Nat} {z : Nat → Int} {P : Nat} {vc vd : Value} {c d gd cd : Nat} (h : L2 w wr n W z P vc vd c d) (hd : den z n W d = true)
    (hown : w1.ownsRow (P + 1) 26 1 (.slice (some ⟨gd, 0, none⟩) (du z n W d * W + W) cd) (du z n W d * W + W) ((List.range (du z n W d * W)).map (fun _ : Nat => Value.int .u64 0) ++ List.replicate W (.int .u64 0))) (hgr : wr.grownBy w1 vd.ownBlock) :
    L2 w (w1.setCell ⟨w.heap.size, 5, none⟩ (.slice (some ⟨gd, 0, none⟩) (du z n W d * W + W) cd)) n W z P vc (.slice (some ⟨gd, 0, none⟩) (du z n W d * W + W) cd) c (d + 1) ∧
    w1.cell? ⟨w.heap.size, 5, none⟩ = some vd ∧ w1.frozen? ⟨w.heap.size, 5, none⟩ = false := by
  have hlo := h.lo
  have hhi := h.hi
  have hob : ∀ k, vd.ownBlock = some k → P + 1 ≤ k := fun k hk => (World.ownsRow.lt h.dn k hk).1
  have hst := h.st.of_block (hgr.block _ h.st.lt (fun e => by have := hob _ e.symm; omega))
  obtain ⟨f, hp, hf⟩ := h.pos
  have hgd : P + 1 ≤ gd := (World.ownsRow.lt hown gd rfl).1
  refine ⟨⟨?_, ?_, ?_, ?_, ?_, ?_, hlo, ?_, h.apart⟩, hst.cell (i := 5) (by omega), hst.frozen 5⟩
  · refine Own.setOther ?_ (fun e => by have := World.ownsRow.lt h.cnts _ e; simp at this; omega) _
    refine h.cnts.kept hgr ?_
    cases hk : vc.ownBlock with
    | none => exact .inl rfl
    | some k => exact .inr fun e => by have h1 := h.apart k hk; have h2 := hob k e.symm; omega
  · refine (hst.set 5 _).congr fun i hi => ?_
    match i, hi with
    | 0, _ => rfl
    | 1, _ => rfl
    | 2, _ => rfl
    | 3, _ => rfl
    | 4, _ => rfl
    | 5, _ => rfl
    | 6, _ => rfl
  · exact (h.ev.of_block (hgr.block _ h.ev.lt (fun e => by have := hob _ e.symm; omega))).setOther (by show w.heap.size + 1 ≠ w.heap.size; omega) _
  · exact ⟨f, (hp.of_block (hgr.block _ h.hi (fun e => by have := hob _ e.symm; omega))).setOther (by show P ≠ w.heap.size; omega) _, hf⟩
  · have := (Own.more (g := fun _ => Value.int .u64 0) hown (fun _ _ => rfl) (fun _ _ _ => rfl)).setOther (a := ⟨w.heap.size, 5, none⟩) (fun e => by simp [Value.ownBlock] at e; omega) (.slice (some ⟨gd, 0, none⟩) (du z n W d * W + W) cd)
    have e : du z n W (d + 1) * W = du z n W d * W + W := by rw [du_succ z n W d hd, Nat.add_mul, Nat.one_mul]
    rw [e]; exact this
  · exact (h.bel.grown hgr h.bel.size (fun k hk => by have := hob _ hk; omega)).setCell (Nat.le_refl _) _
  · have := hgr.size; simp [World.setCell]; omega

/-- Loop 3's memory: the sets and lists fill. -/
structure L3 (w wr : World) (n W : Nat) (z : Nat → Int) (P Q : Nat) (vd : Value) (i : Nat) : Prop where
  st : wr.rowIs w.heap.size 63 7 (seqCells W ((n - 1) / 64) (IntKind.u64.wrap (2 ^ ((n - 1) % 64))) (.slice (some ⟨w.heap.size + 1, 0, none⟩) W W) (.slice (some ⟨P, 0, none⟩) (top z n) (top z n)) vd (.slice (some ⟨Q, 0, none⟩) (sp z n W (top z n)) (sp z n W (top z n))))
  ev : wr.rowIs (w.heap.size + 1) 26 W (fun x => .int .u64 (word (fun j => decide (j < i) && decide (z j < 0)) x))
  pos : ∃ f, wr.rowIs P 65 (top z n * 3) f ∧ ∀ q, q < top z n → f (q * 3) = .bool (den z n W q) ∧ f (q * 3 + 1) = .int .i64 (frm z n W q) ∧ f (q * 3 + 2) = .int .i64 (til z n W i q)
  dn : ∃ f : Nat → Nat, Own wr (P + 1) 26 vd (du z n W (top z n) * W) (fun x => .int .u64 (f x)) ∧ ∀ q, q < top z n → den z n W q = true → ∀ x, x < W → f (du z n W q * W + x) = word (fun j => decide (j < i) && decide (z j = (q : Int))) x
  spr : ∃ f : Nat → Nat, wr.rowIs Q 3 (sp z n W (top z n)) (fun e => .int .i64 (f e)) ∧ ∀ q, q < top z n → den z n W q = false → ∀ r, r < cnt z i q → f (sp z n W q + r) < i ∧ z (f (sp z n W q + r)) = q ∧ cnt z (f (sp z n W q + r)) q = r
  bel : Below w.heap.size w wr
  lo : w.heap.size + 2 ≤ P
  mid : P < Q
  hi : Q < wr.heap.size
  apart : ∀ k, vd.ownBlock = some k → k < Q

theorem L3.start {w wr : World} {n W : Nat} {z : Nat → Int} {P : Nat} {vc vd : Value} (h : L2 w wr n W z P vc vd (top z n) (top z n)) :
    L3 w ((wr.setCell ⟨w.heap.size, 6, none⟩ (.slice (some ⟨wr.heap.size, 0, none⟩) (sp z n W (top z n)) (sp z n W (top z n)))).alloc (.cells (madeCells #[Value.int .i64 0] (sp z n W (top z n))) 3)) n W z P wr.heap.size vd 0 := by
  have hlo := h.lo
  have hhi := h.hi
  have hob := World.ownsRow.lt h.dn
  have hs' : (wr.setCell ⟨w.heap.size, 6, none⟩ (.slice (some ⟨wr.heap.size, 0, none⟩) (sp z n W (top z n)) (sp z n W (top z n)))).heap.size = wr.heap.size := by simp [World.setCell]
  obtain ⟨f, hp, hf⟩ := h.pos
  refine ⟨?_, ?_, ?_, ?_, ?_, ?_, hlo, hhi, by simp, fun k hk => (hob k hk).2⟩
  · refine ((h.st.set 6 _).alloc _).congr fun i hi => ?_
    match i, hi with
    | 0, _ => rfl
    | 1, _ => rfl
    | 2, _ => rfl
    | 3, _ => rfl
    | 4, _ => rfl
    | 5, _ => rfl
    | 6, _ => rfl
  · refine ((h.ev.setOther (by show w.heap.size + 1 ≠ w.heap.size; omega) _).alloc _).congr fun x _ => ?_
    rw [word_none x _ (fun j => by simp)]; rfl
  · exact ⟨f, (hp.setOther (by show P ≠ w.heap.size; omega) _).alloc _, hf⟩
  · refine ⟨fun _ => 0, ?_, fun q _ _ x _ => ?_⟩
    · exact (h.dn.setOther (fun e => by have := (hob _ e).1; simp at this; omega) _).alloc _
    · rw [word_none x _ (fun j => by simp)]
  · refine ⟨fun _ => 0, ?_, fun q _ _ r hr => by simp [cnt] at hr⟩
    have := World.rowIs_made (wr.setCell ⟨w.heap.size, 6, none⟩ (.slice (some ⟨wr.heap.size, 0, none⟩) (sp z n W (top z n)) (sp z n W (top z n)))) (.int .i64 0) (sp z n W (top z n)) 3
    rw [hs'] at this
    exact this
  · exact (h.bel.setCell (Nat.le_refl _) _).alloc (by rw [hs']; exact h.bel.size) _

theorem L3.drew {w wr : World} {n W : Nat} {z : Nat → Int} {P Q : Nat} {vd : Value} {i : Nat} (h : L3 w wr n W z P Q vd i) : L3 w wr.drew n W z P Q vd i :=
  ⟨h.st, h.ev, h.pos, h.dn, h.spr, h.bel.drew, h.lo, h.mid, h.hi, h.apart⟩

theorem wrap_bit (k : Nat) (hk : k < 64) : IntKind.u64.wrap (2 ^ k) = ((2 ^ k : Nat) : Int) := by
  have h1 : 2 ^ k < 2 ^ 64 := Nat.pow_lt_pow_right (by omega) hk
  have h2 : ((2 : Int) ^ k) = ((2 ^ k : Nat) : Int) := by rw [Int.natCast_pow]; rfl
  rw [h2, IntKind.wrap_u64]
  clear h2
  generalize 2 ^ k = m at h1 ⊢
  omega
theorem or_bit (e k : Nat) (he : e < 18446744073709551616) (hk : k < 64) : bits .or .u64 (e : Int) (IntKind.u64.wrap (2 ^ k)) = ((e ||| 2 ^ k : Nat) : Int) := by
  have h1 : 2 ^ k < 2 ^ 64 := Nat.pow_lt_pow_right (by omega) hk
  rw [wrap_bit k hk, bits_or_u64_nat e (2 ^ k) he (by omega)]

theorem til_ne (z : Nat → Int) (n W i q : Nat) (h : z i ≠ q) : til z n W (i + 1) q = til z n W i q := by
  unfold til; rw [cnt_succ_ne z i q h]

/-- A position that takes every symbol. -/
theorem L3.every {w wr : World} {n W : Nat} {z : Nat → Int} {P Q : Nat} {vd : Value} {i : Nat} (h : L3 w wr n W z P Q vd i) (hz : z i < 0) (a : Value)
    (ha : a = .int .u64 ((word (fun j => decide (j < i) && decide (z j < 0)) (i / 64) ||| 2 ^ (i % 64) : Nat) : Int)) : L3 w (wr.setCell ⟨w.heap.size + 1, i / 64, none⟩ a) n W z P Q vd (i + 1) := by
  have hlo := h.lo
  have hmid := h.mid
  obtain ⟨f, hp, hf⟩ := h.pos
  obtain ⟨fd, hd, hfd⟩ := h.dn
  obtain ⟨fs, hs, hfs⟩ := h.spr
  have hset : ∀ j, (decide (j < i + 1) && decide (z j < 0)) = ((decide (j < i) && decide (z j < 0)) || decide (j = i)) := by
    intro j
    by_cases e : j = i
    · subst e; simp [hz]
    · by_cases h2 : j < i
      · simp [e, h2, show j < i + 1 by omega]
      · simp [e, h2, show ¬ j < i + 1 by omega]
  refine ⟨h.st.setOther (by show w.heap.size ≠ w.heap.size + 1; omega) _, ?_, ⟨f, hp.setOther (by show P ≠ w.heap.size + 1; omega) _, fun q hq => ?_⟩, ⟨fd, hd.setOther (fun e => by have := (World.ownsRow.lt hd _ e).1; simp at this; omega) _, fun q hq hdq x hx => ?_⟩, ⟨fs, hs.setOther (by show Q ≠ w.heap.size + 1; omega) _, fun q hq hdq r hr => ?_⟩, h.bel.setCell (by show w.heap.size ≤ w.heap.size + 1; omega) _, hlo, hmid, by simpa [World.setCell] using h.hi, h.apart⟩
  · refine (h.ev.set (i / 64) a).congr fun x _ => ?_
    by_cases hx : x = i / 64
    · subst hx; rw [if_pos rfl, ha, word_set i hset]
    · rw [if_neg hx, word_other i x hx hset]
  · rw [til_ne z n W i q (by omega)]; exact hf q hq
  · rw [hfd q hq hdq x hx]
    exact word_congr x fun j _ => by
      by_cases e : j = i
      · subst e; simp [show ¬ z j = (q : Int) by omega]
      · by_cases h2 : j < i
        · simp [h2, show j < i + 1 by omega]
        · simp [h2, show ¬ j < i + 1 by omega]
  · rw [cnt_succ_ne z i q (by omega)] at hr
    obtain ⟨h1, h2, h3⟩ := hfs q hq hdq r hr
    exact ⟨by omega, h2, h3⟩

/-- Two places in the sets are one only if class and word are. -/
theorem dense_apart (z : Nat → Int) (n W : Nat) {c q x y : Nat} (hc : den z n W c = true) (hq : den z n W q = true) (hx : x < W) (hy : y < W) (h : du z n W c * W + x = du z n W q * W + y) : c = q ∧ x = y := by
  have key : ∀ {a b x y : Nat}, den z n W a = true → x < W → du z n W a * W + x = du z n W b * W + y → ¬ a < b := by
    intro a b x y ha hx h hlt
    have h1 := du_lt z n W hlt ha
    have h2 := Nat.mul_le_mul_right W h1
    rw [Nat.succ_mul] at h2
    omega
  have h1 := key hc hx h
  have h2 := key hq hy h.symm
  have : c = q := by omega
  subst this
  exact ⟨rfl, by omega⟩

theorem L3.dense {w wr : World} {n W : Nat} {z : Nat → Int} {P Q D cd : Nat} {i c : Nat} (h : L3 w wr n W z P Q (.slice (some ⟨D, 0, none⟩) (du z n W (top z n) * W) cd) i) (hz : z i = c) (hdc : den z n W c = true) (hi : i / 64 < W) (a : Value)
    (ha : a = .int .u64 ((word (fun j => decide (j < i) && decide (z j = (c : Int))) (i / 64) ||| 2 ^ (i % 64) : Nat) : Int)) : L3 w (wr.setCell ⟨D, du z n W c * W + i / 64, none⟩ a) n W z P Q (.slice (some ⟨D, 0, none⟩) (du z n W (top z n) * W) cd) (i + 1) := by
  have hlo := h.lo
  have hmid := h.mid
  have hDQ := h.apart D rfl
  obtain ⟨f, hp, hf⟩ := h.pos
  obtain ⟨fd, hd, hfd⟩ := h.dn
  obtain ⟨fs, hs, hfs⟩ := h.spr
  have hDP := (World.ownsRow.lt hd D rfl).1
  have hset : ∀ j, (decide (j < i + 1) && decide (z j = (c : Int))) = ((decide (j < i) && decide (z j = (c : Int))) || decide (j = i)) := by
    intro j
    by_cases e : j = i
    · subst e; simp [hz]
    · by_cases h2 : j < i
      · simp [e, h2, show j < i + 1 by omega]
      · simp [e, h2, show ¬ j < i + 1 by omega]
  refine ⟨h.st.setOther (by show w.heap.size ≠ D; omega) _, ?_, ⟨f, hp.setOther (by show P ≠ D; omega) _, fun q hq => ?_⟩, ⟨fun x => if x = du z n W c * W + i / 64 then (word (fun j => decide (j < i) && decide (z j = (c : Int))) (i / 64) ||| 2 ^ (i % 64)) else fd x, (hd.set _ a).congr (fun x _ => ?_), fun q hq hdq x hx => ?_⟩, ⟨fs, hs.setOther (by show Q ≠ D; omega) _, fun q hq hdq r hr => ?_⟩, h.bel.setCell (by show w.heap.size ≤ D; omega) _, hlo, hmid, by simpa [World.setCell] using h.hi, h.apart⟩
  · refine (h.ev.setOther (by show w.heap.size + 1 ≠ D; omega) _).congr fun x _ => ?_
    rw [word_congr x (p := fun j => decide (j < i + 1) && decide (z j < 0)) (q := fun j => decide (j < i) && decide (z j < 0)) fun j _ => by
      by_cases e : j = i
      · subst e; simp [show ¬ z j < 0 by omega]
      · by_cases h2 : j < i
        · simp [h2, show j < i + 1 by omega]
        · simp [h2, show ¬ j < i + 1 by omega]]
  · obtain ⟨f0, f1, f2⟩ := hf q hq
    refine ⟨f0, f1, ?_⟩
    rw [f2]
    by_cases hqc : q = c
    · subst hqc; simp [til, hdc]
    · rw [til_ne z n W i q (by omega)]
  · by_cases hx : x = du z n W c * W + i / 64
    · simp only [if_pos hx, ha]
    · simp only [if_neg hx]
  · by_cases hqc : q = c
    · subst hqc
      by_cases hxi : x = i / 64
      · subst hxi; simp only [if_pos]; rw [word_set i hset]
      · have : ¬ du z n W q * W + x = du z n W q * W + i / 64 := by omega
        simp only [if_neg this]
        rw [hfd q hq hdq x hx, word_other i x hxi hset]
    · have : ¬ du z n W q * W + x = du z n W c * W + i / 64 := fun e => hqc (dense_apart z n W hdq hdc hx hi e).1
      simp only [if_neg this]
      rw [hfd q hq hdq x hx]
      exact word_congr x fun j _ => by
        by_cases e : j = i
        · subst e; simp [show ¬ z j = (q : Int) by omega]
        · by_cases h2 : j < i
          · simp [h2, show j < i + 1 by omega]
          · simp [h2, show ¬ j < i + 1 by omega]
  · have hqc : q ≠ c := fun e => by subst e; rw [hdc] at hdq; cases hdq
    rw [cnt_succ_ne z i q (by omega)] at hr
    obtain ⟨h1, h2, h3⟩ := hfs q hq hdq r hr
    exact ⟨by omega, h2, h3⟩

/-- Two places in the lists are one only if class and rank are. -/
theorem sparse_apart (z : Nat → Int) (n W : Nat) {c q x y : Nat} (hc : den z n W c = false) (hq : den z n W q = false) (hx : x < cnt z n c) (hy : y < cnt z n q) (h : sp z n W c + x = sp z n W q + y) : c = q ∧ x = y := by
  have key : ∀ {a b x y : Nat}, den z n W a = false → x < cnt z n a → sp z n W a + x = sp z n W b + y → ¬ a < b := by
    intro a b x y ha hx h hlt
    have h1 := sp_lt z n W hlt ha
    omega
  have h1 := key hc hx h
  have h2 := key hq hy h.symm
  have : c = q := by omega
  subst this
  exact ⟨rfl, by omega⟩

theorem L3.sparse {w wr : World} {n W : Nat} {z : Nat → Int} {P Q : Nat} {vd : Value} {i c : Nat} (h : L3 w wr n W z P Q vd i) (hz : z i = c) (hin : i < n) (hdc : den z n W c = false) (hct : c < top z n)
    (a b : Value) (ha : a = .int .i64 (i : Int)) (hb : b = .int .i64 ((sp z n W c + cnt z i c + 1 : Nat) : Int)) :
    L3 w ((wr.setCell ⟨Q, sp z n W c + cnt z i c, none⟩ a).setCell ⟨P, c * 3 + 2, none⟩ b) n W z P Q vd (i + 1) := by
  have hlo := h.lo
  have hmid := h.mid
  obtain ⟨f, hp, hf⟩ := h.pos
  obtain ⟨fd, hd, hfd⟩ := h.dn
  obtain ⟨fs, hs, hfs⟩ := h.spr
  have hcn : cnt z i c < cnt z n c := by
    have h1 := cnt_mono z c (j := i + 1) (k := n) hin
    have h2 := cnt_succ_eq z i
    rw [hz] at h2
    omega
  have hvQ : vd.ownBlock ≠ some Q := fun e => by have := h.apart Q e; omega
  have hvP : vd.ownBlock ≠ some P := fun e => by have := (World.ownsRow.lt hd P e).1; omega
  refine ⟨(h.st.setOther (by show w.heap.size ≠ Q; omega) _).setOther (by show w.heap.size ≠ P; omega) _, ?_, ⟨_, ((hp.setOther (by show P ≠ Q; omega) a).set (c * 3 + 2) b), fun q hq => ?_⟩, ⟨fd, (hd.setOther hvQ _).setOther hvP _, fun q hq hdq x hx => ?_⟩, ⟨fun e => if e = sp z n W c + cnt z i c then i else fs e, (((hs.set (sp z n W c + cnt z i c) a).setOther (by show Q ≠ P; omega) b).congr fun e _ => ?_), fun q hq hdq r hr => ?_⟩, (h.bel.setCell (by show w.heap.size ≤ Q; omega) _).setCell (by show w.heap.size ≤ P; omega) _, hlo, hmid, by simpa [World.setCell] using h.hi, h.apart⟩
  · refine ((h.ev.setOther (by show w.heap.size + 1 ≠ Q; omega) _).setOther (by show w.heap.size + 1 ≠ P; omega) _).congr fun x _ => ?_
    rw [word_congr x (p := fun j => decide (j < i + 1) && decide (z j < 0)) (q := fun j => decide (j < i) && decide (z j < 0)) fun j _ => by
      by_cases e : j = i
      · subst e; simp [show ¬ z j < 0 by omega]
      · by_cases h2 : j < i
        · simp [h2, show j < i + 1 by omega]
        · simp [h2, show ¬ j < i + 1 by omega]]
  · obtain ⟨f0, f1, f2⟩ := hf q hq
    refine ⟨?_, ?_, ?_⟩
    · show (if q * 3 = c * 3 + 2 then b else f (q * 3)) = _
      rw [if_neg (by omega), f0]
    · show (if q * 3 + 1 = c * 3 + 2 then b else f (q * 3 + 1)) = _
      rw [if_neg (by omega), f1]
    · show (if q * 3 + 2 = c * 3 + 2 then b else f (q * 3 + 2)) = _
      by_cases hqc : q = c
      · subst hqc
        rw [if_pos rfl, hb]
        unfold til
        rw [if_neg (by simp [hdc])]
        show Value.int IntKind.i64 ((sp z n W q + cnt z i q + 1 : Nat) : Int) = Value.int IntKind.i64 ((sp z n W q + (cnt z i q + if z i = (q : Int) then 1 else 0) : Nat) : Int)
        rw [if_pos hz, Nat.add_assoc]
      · rw [if_neg (by omega), f2, til_ne z n W i q (by omega)]
  · rw [hfd q hq hdq x hx]
    have hqc : q ≠ c := fun e => by subst e; rw [hdc] at hdq; cases hdq
    exact word_congr x fun j _ => by
      by_cases e : j = i
      · subst e; simp [show ¬ z j = (q : Int) by omega]
      · by_cases h2 : j < i
        · simp [h2, show j < i + 1 by omega]
        · simp [h2, show ¬ j < i + 1 by omega]
  · by_cases he : e = sp z n W c + cnt z i c
    · simp only [if_pos he, ha]
    · simp only [if_neg he]
  · by_cases hqc : q = c
    · subst hqc
      by_cases hri : r = cnt z i q
      · subst hri
        simp only [if_pos]
        exact ⟨by omega, hz, trivial⟩
      · have hr' : r < cnt z i q := by
          have : cnt z (i + 1) q = cnt z i q + if z i = (q : Int) then 1 else 0 := rfl
          rw [if_pos hz] at this
          omega
        have : ¬ sp z n W q + r = sp z n W q + cnt z i q := by omega
        simp only [if_neg this]
        obtain ⟨h1, h2, h3⟩ := hfs q hq hdq r hr'
        exact ⟨by omega, h2, h3⟩
    · rw [cnt_succ_ne z i q (by omega)] at hr
      have hrn : r < cnt z n q := Nat.lt_of_lt_of_le hr (cnt_mono z q (by omega))
      have : ¬ sp z n W q + r = sp z n W c + cnt z i c := fun e => hqc (sparse_apart z n W hdq hdc hrn hcn e).1
      simp only [if_neg this]
      obtain ⟨h1, h2, h3⟩ := hfs q hq hdq r hr
      exact ⟨by omega, h2, h3⟩

theorem L3.alloc {w wr : World} {n W : Nat} {z : Nat → Int} {P Q : Nat} {vd : Value} {i : Nat} (h : L3 w wr n W z P Q vd i) (o : Obj) : L3 w (wr.alloc o) n W z P Q vd i := by
  obtain ⟨f, hp, hf⟩ := h.pos
  obtain ⟨fd, hd, hfd⟩ := h.dn
  obtain ⟨fs, hs, hfs⟩ := h.spr
  exact ⟨h.st.alloc _, h.ev.alloc _, ⟨f, hp.alloc _, hf⟩, ⟨fd, hd.alloc _, hfd⟩, ⟨fs, hs.alloc _, hfs⟩, h.bel.alloc h.bel.size _, h.lo, h.mid, by simp; have := h.hi; omega, h.apart⟩

theorem L3.setNew {w wr : World} {n W : Nat} {z : Nat → Int} {P Q : Nat} {vd : Value} {i : Nat} (h : L3 w wr n W z P Q vd i) {a : Addr} (ha : Q < a.block) (v : Value) : L3 w (wr.setCell a v) n W z P Q vd i := by
  have hlo := h.lo
  have hmid := h.mid
  obtain ⟨f, hp, hf⟩ := h.pos
  obtain ⟨fd, hd, hfd⟩ := h.dn
  obtain ⟨fs, hs, hfs⟩ := h.spr
  exact ⟨h.st.setOther (by omega) _, h.ev.setOther (by omega) _, ⟨f, hp.setOther (by omega) _, hf⟩, ⟨fd, hd.setOther (fun e => by have := h.apart _ e; omega) _, hfd⟩, ⟨fs, hs.setOther (by omega) _, hfs⟩, h.bel.setCell (by omega) _, hlo, hmid, by simpa [World.setCell] using h.hi, h.apart⟩

end Go.Proofs.Qxb6602406a
