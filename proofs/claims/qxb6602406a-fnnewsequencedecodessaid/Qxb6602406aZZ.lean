/-
  Seat b6602406a: the walk of ZZNewSequence.
-/
import Derived.Test.Qxb6602406aSeq
import Derived.Deep.QuietTactic
import Derived.BigQuiet
namespace Go.Proofs.Qxb6602406a
open Go.RowKit

/-- What the call hands back, as memory. -/
structure Seq9 (w wr : World) (n W : Nat) (z : Nat → Int) (E A F T Q : Nat) (vd : Value) : Prop where
  ev : wr.rowIs E 26 W (fun x => .int .u64 (word (fun j => decide (j < n) && decide (z j < 0)) x))
  da : wr.rowIs A 4 (top z n) (fun q => .bool (den z n W q))
  fr : wr.rowIs F 3 (top z n) (fun q => .int .i64 (frm z n W q))
  tl : wr.rowIs T 3 (top z n) (fun q => .int .i64 (til z n W n q))
  dn : ∃ f : Nat → Nat, Own wr w.heap.size 26 vd (du z n W (top z n) * W) (fun x => .int .u64 (f x)) ∧ ∀ q, q < top z n → den z n W q = true → ∀ x, x < W → f (du z n W q * W + x) = word (fun j => decide (j < n) && decide (z j = (q : Int))) x
  spr : ∃ f : Nat → Nat, wr.rowIs Q 3 (sp z n W (top z n)) (fun e => .int .i64 (f e)) ∧ ∀ q, q < top z n → den z n W q = false → ∀ r, r < cnt z n q → f (sp z n W q + r) < n ∧ z (f (sp z n W q + r)) = q ∧ cnt z (f (sp z n W q + r)) q = r
  bel : Below w.heap.size w wr

/-- The loop's memory: of the first j classes the three cells are copied. -/
structure L4 (w wr : World) (n W : Nat) (z : Nat → Int) (P Q A : Nat) (vd : Value) (j : Nat) : Prop where
  l3 : L3 w wr n W z P Q vd n
  da : wr.rowIs A 4 (top z n) (fun q => if q < j then .bool (den z n W q) else .bool false)
  fr : wr.rowIs (A + 1) 3 (top z n) (fun q => if q < j then .int .i64 (frm z n W q) else .int .i64 0)
  tl : wr.rowIs (A + 2) 3 (top z n) (fun q => if q < j then .int .i64 (til z n W n q) else .int .i64 0)
  hi : Q < A

theorem L4.start {w w1 : World} {n W : Nat} {z : Nat → Int} {P Q : Nat} {vd : Value} (h : L3 w w1 n W z P Q vd n) :
    L4 w (((w1.alloc (.cells (madeCells #[Value.bool false] (top z n)) 4)).alloc (.cells (madeCells #[Value.int .i64 0] (top z n)) 3)).alloc (.cells (madeCells #[Value.int .i64 0] (top z n)) 3)) n W z P Q w1.heap.size vd 0 := by
  refine ⟨((h.alloc _).alloc _).alloc _, ?_, ?_, ?_, h.hi⟩
  · exact (((World.rowIs_made w1 (.bool false) (top z n) 4).alloc _).alloc _).congr fun q _ => by simp
  · have := (World.rowIs_made (w1.alloc (.cells (madeCells #[Value.bool false] (top z n)) 4)) (.int .i64 0) (top z n) 3).alloc (.cells (madeCells #[Value.int .i64 0] (top z n)) 3)
    simp only [World.size_alloc] at this
    exact this.congr fun q _ => by simp
  · have := World.rowIs_made ((w1.alloc (.cells (madeCells #[Value.bool false] (top z n)) 4)).alloc (.cells (madeCells #[Value.int .i64 0] (top z n)) 3)) (.int .i64 0) (top z n) 3
    simp only [World.size_alloc] at this
    exact this.congr fun q _ => by simp

theorem upto_set {α : Type} (f g : Nat → α) (j : Nat) (v : α) (hv : v = f j) (q : Nat) : (if q = j then v else if q < j then f q else g q) = if q < j + 1 then f q else g q := by
  by_cases h1 : q = j
  · subst h1; rw [if_pos rfl, if_pos (by omega), hv]
  · by_cases h2 : q < j
    · rw [if_neg h1, if_pos h2, if_pos (by omega)]
    · rw [if_neg h1, if_neg h2, if_neg (by omega)]

theorem L4.step {w wr : World} {n W : Nat} {z : Nat → Int} {P Q A : Nat} {vd : Value} {j : Nat} (h : L4 w wr n W z P Q A vd j) (a0 a1 a2 : Value) (e0 : a0 = .bool (den z n W j)) (e1 : a1 = .int .i64 (frm z n W j)) (e2 : a2 = .int .i64 (til z n W n j)) :
    L4 w (((wr.setCell ⟨A, j, none⟩ a0).setCell ⟨A + 1, j, none⟩ a1).setCell ⟨A + 2, j, none⟩ a2) n W z P Q A vd (j + 1) := by
  have hQ := h.hi
  refine ⟨((h.l3.setNew (by show Q < A; omega) _).setNew (by show Q < A + 1; omega) _).setNew (by show Q < A + 2; omega) _, ?_, ?_, ?_, hQ⟩
  · exact (((h.da.set j a0).setOther (by show A ≠ A + 1; omega) _).setOther (by show A ≠ A + 2; omega) _).congr fun q _ => upto_set (fun q => Value.bool (den z n W q)) (fun _ => .bool false) j a0 e0 q
  · exact (((h.fr.setOther (by show A + 1 ≠ A; omega) _).set j a1).setOther (by show A + 1 ≠ A + 2; omega) _).congr fun q _ => upto_set (fun q => Value.int .i64 (frm z n W q)) (fun _ => .int .i64 0) j a1 e1 q
  · exact (((h.tl.setOther (by show A + 2 ≠ A; omega) _).setOther (by show A + 2 ≠ A + 1; omega) _).set j a2).congr fun q _ => upto_set (fun q => Value.int .i64 (til z n W n q)) (fun _ => .int .i64 0) j a2 e2 q

theorem L4.done {w wr : World} {n W : Nat} {z : Nat → Int} {P Q A : Nat} {vd : Value} (h : L4 w wr n W z P Q A vd (top z n)) (k : Nat) : Seq9 w (wr.drewN k) n W z (w.heap.size + 1) A (A + 1) (A + 2) Q vd := by
  obtain ⟨fd, hd, hfd⟩ := h.l3.dn
  have hlo := h.l3.lo
  have hw : Seq9 w wr n W z (w.heap.size + 1) A (A + 1) (A + 2) Q vd :=
    ⟨h.l3.ev, h.da.congr fun q hq => by rw [if_pos hq], h.fr.congr fun q hq => by rw [if_pos hq], h.tl.congr fun q hq => by rw [if_pos hq], ⟨fd, hd.mono (by omega), hfd⟩, h.l3.spr, h.l3.bel⟩
  exact ⟨hw.ev, hw.da, hw.fr, hw.tl, hw.dn, hw.spr, below_drewN hw.bel k⟩

set_option maxRecDepth 100000 in
set_option maxHeartbeats 1000000 in
theorem zzseq (b n : Nat) (z : Nat → Int) (w : World) (h0 : 0 < n) (hn : n ≤ 65536) (hz : ∀ t, t < n → z t ≤ 65536) (hb : b < w.heap.size) (hc : ∀ t, t < n → w.cell? ⟨b, t, none⟩ = some (.int .i64 (z t))) :
    Calls Try.prog 12 #[.slice (some ⟨b, 0, none⟩) n n] w fun e w' => ∃ E A F T Q vd, e = .returned (.tuple #[.int .i64 (((n - 1) / 64 + 1 : Nat) : Int), .slice (some ⟨E, 0, none⟩) ((n - 1) / 64 + 1) ((n - 1) / 64 + 1), .int .i64 (((n - 1) / 64 : Nat) : Int), .int .u64 (IntKind.u64.wrap (2 ^ ((n - 1) % 64))),
        .slice (some ⟨A, 0, none⟩) (top z n) (top z n), .slice (some ⟨F, 0, none⟩) (top z n) (top z n), .slice (some ⟨T, 0, none⟩) (top z n) (top z n), vd, .slice (some ⟨Q, 0, none⟩) (sp z n ((n - 1) / 64 + 1) (top z n)) (sp z n ((n - 1) / 64 + 1) (top z n))]) ∧ Seq9 w w' n ((n - 1) / 64 + 1) z E A F T Q vd := by
  have hK := top_le z n n 65536 (by omega) hz
  have hm1 := mk_row (P := Try.prog) 27 4 (.bool false) 1 Try.underlying27 Try.info4 rfl (top z n : Int) (top z n) rfl (by omega) (by omega)
  have hm2 := mk_row (P := Try.prog) 22 3 (.int .i64 0) 8 Try.underlying22 Try.info3 rfl (top z n : Int) (top z n) rfl (by omega) (by omega)
  go_enter Try.func12, Try.ntmps12
  go_wp2_with (go_at_call 31; refine (newseq b n z w h0 hn hz hb hc).mono ?_; rintro e w1 ⟨rfl, P, Q, vd, hL⟩; have c4 : w1.cell? ⟨w.heap.size, 4, none⟩ = some (.slice (some ⟨P, 0, none⟩) (top z n) (top z n)) := hL.st.cell (i := 4) (by omega); have hlt := hL.st.lt)
  generalize hW : (n - 1) / 64 + 1 = W at *
  have HW : Hid ((n - 1) / 64 + 1 = W) := hW
  clear hW hm1 hm2 c4 hlt
  generalize hA : w1.heap.size = A at *
  go_loopg [12] (top z n) (fun k i w' => ∃ (j : Nat), j + k = top z n ∧ i = .int .i64 j ∧ L4 w w' n W z P Q A vd j)
  case atStart => exact ⟨0, by omega, rfl, hA ▸ L4.start hL⟩
  case round =>
    clear hL hA
    obtain ⟨j, hj, rfl, hL⟩ := hrel
    have hQA := hL.hi
    have hlo := hL.l3.lo
    have hmid := hL.l3.mid
    have c4 : wr.cell? ⟨w.heap.size, 4, none⟩ = some (.slice (some ⟨P, 0, none⟩) (top z n) (top z n)) := hL.l3.st.cell (i := 4) (by omega)
    by_cases hlt : j < top z n
    · obtain ⟨f, hpos, hf⟩ := hL.l3.pos
      obtain ⟨f0, f1, f2⟩ := hf j hlt
      have p0 := hpos.cell (i := j * 3) (by omega)
      have p1 := hpos.cell (i := j * 3 + 1) (by omega)
      have p2 := hpos.cell (i := j * 3 + 2) (by omega)
      rw [f0] at p0
      rw [f1] at p1
      rw [f2] at p2
      have d0 := hL.da.cell hlt
      have d1 := hL.fr.cell hlt
      have d2 := hL.tl.cell hlt
      rw [if_neg (Nat.lt_irrefl j)] at d0 d1 d2
      have g0 := hL.da.frozen j
      have g1 := hL.fr.frozen j
      have g2 := hL.tl.frozen j
      have hend := hL.step _ _ _ rfl rfl rfl
      clear hf f0 f1 f2
      go_wp2
      go_roundg (gk - 1)
      case measure => omega
      case rel => exact ⟨j + 1, by omega, by go_num, hend⟩
    · obtain rfl : top z n = j := by omega
      have s0 : wr.cell? ⟨w.heap.size, 0, none⟩ = some (.int .i64 (W : Int)) := hL.l3.st.cell (i := 0) (by omega)
      have s1 : wr.cell? ⟨w.heap.size, 1, none⟩ = some (.slice (some ⟨w.heap.size + 1, 0, none⟩) W W) := hL.l3.st.cell (i := 1) (by omega)
      have s2 : wr.cell? ⟨w.heap.size, 2, none⟩ = some (.int .i64 (((n - 1) / 64 : Nat) : Int)) := hL.l3.st.cell (i := 2) (by omega)
      have s3 : wr.cell? ⟨w.heap.size, 3, none⟩ = some (.int .u64 (IntKind.u64.wrap (2 ^ ((n - 1) % 64)))) := hL.l3.st.cell (i := 3) (by omega)
      have s5 : wr.cell? ⟨w.heap.size, 5, none⟩ = some vd := hL.l3.st.cell (i := 5) (by omega)
      have s6 : wr.cell? ⟨w.heap.size, 6, none⟩ = some (.slice (some ⟨Q, 0, none⟩) (sp z n W (top z n)) (sp z n W (top z n))) := hL.l3.st.cell (i := 6) (by omega)
      obtain ⟨ad, cd, rfl⟩ : ∃ ad cd, vd = .slice ad (du z n W (top z n) * W) cd := by
        obtain ⟨fd, hd, _⟩ := hL.l3.dn
        exact hd.shape
      go_wp2
      go_quiet (fail)
      go_wp2
      have hdone := hL.done nq
      rw [HW.out]
      refine bodyPost_ret (v := .tuple #[.int .i64 (W : Int), .slice (some ⟨w.heap.size + 1, 0, none⟩) W W, .int .i64 (((n - 1) / 64 : Nat) : Int), .int .u64 (IntKind.u64.wrap (2 ^ ((n - 1) % 64))),
        .slice (some ⟨A, 0, none⟩) (top z n) (top z n), .slice (some ⟨A + 1, 0, none⟩) (top z n) (top z n), .slice (some ⟨A + 2, 0, none⟩) (top z n) (top z n), .slice ad (du z n W (top z n) * W) cd, .slice (some ⟨Q, 0, none⟩) (sp z n W (top z n)) (sp z n W (top z n))]) ?_ rfl ⟨w.heap.size + 1, A, A + 1, A + 2, Q, _, rfl, hdone⟩
      simp [results, Try.results12, go_sem]

end Go.Proofs.Qxb6602406a
