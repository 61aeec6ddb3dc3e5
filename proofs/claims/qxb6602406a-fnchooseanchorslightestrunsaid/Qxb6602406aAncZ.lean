/-
  Seat b6602406a: the walk of ZZChooseAnchors.
-/
import Derived.Test.Qxb6602406aAncCh
import Derived.BigRegion
namespace Go.Proofs.Qxb6602406a
open Go.RowKit

theorem Try.info79 : (Try.prog.info? 79).map (fun i => (i.zero, i.size, i.bytes)) = some (some (.agg #[.string ByteArray.empty, .pointer none]), 2, 24) := by kernel_rfl
theorem Try.info81 : (Try.prog.info? 81).map (fun i => (i.zero, i.size, i.bytes)) = some (some (.agg #[.slice none 0 0, .int .i64 0, .int .i64 0, .int .i64 0, .bool false]), 5, 56) := by kernel_rfl

/-- Of the parts at block pb the first j are laid. -/
structure PUp (wr : World) (pb n : Nat) (D : Desc) (TB : Nat → Nat) (j : Nat) : Prop where
  row : ∃ f, wr.rowIs pb 81 (n * 5) f ∧ ∀ i, i < j → f (i * 5) = .slice (some ⟨TB i, 0, none⟩) (D.m i) (D.m i) ∧ f (i * 5 + 1) = .int .i64 (D.an i) ∧ f (i * 5 + 2) = .int .i64 (D.ln i) ∧ f (i * 5 + 3) = .int .i64 (D.bf i) ∧ f (i * 5 + 4) = .bool (D.ex i)
  txt : ∀ i, i < j → TxtAt wr (TB i) (D.m i) (D.S i)
  ne : ∀ i, i < j → TB i ≠ pb

theorem PUp.start (w : World) (n : Nat) (D : Desc) (TB : Nat → Nat) (c : Array Value) (hc : c.size = n * 5) : PUp (w.alloc (.cells c 81)) w.heap.size n D TB 0 :=
  ⟨⟨_, hc ▸ World.rowIs_alloc w c 81 (fun i => c.getD i undef) (fun i hi => by simp [Array.getD, hi]), fun i hi => by omega⟩, fun i hi => by omega, fun i hi => by omega⟩

theorem PUp.done {wr : World} {pb n : Nat} {D : Desc} {TB : Nat → Nat} (h : PUp wr pb n D TB n) : Parts wr pb n D TB D.an D.ln D.bf := ⟨h.row, h.txt, h.ne⟩

theorem PUp.below {wr w' : World} {pb n : Nat} {D : Desc} {TB : Nat → Nat} {j : Nat} (h : PUp wr pb n D TB j) (hb : Below wr.heap.size wr w') : PUp w' pb n D TB j := by
  obtain ⟨f, hr, hf⟩ := h.row
  exact ⟨⟨f, hr.of_block (hb.block _ hr.lt), hf⟩, fun i hi => (h.txt i hi).below hb, h.ne⟩

theorem PUp.step {wr : World} {pb n : Nat} {D : Desc} {TB : Nat → Nat} {j : Nat} (h : PUp wr pb n D TB j) (T : Nat) (hT : TxtAt wr T (D.m j) (D.S j)) (hne : T ≠ pb) :
    PUp (((((wr.setCell ⟨pb, j * 5, none⟩ (.slice (some ⟨T, 0, none⟩) (D.m j) (D.m j))).setCell ⟨pb, j * 5 + 1, none⟩ (.int .i64 (D.an j))).setCell ⟨pb, j * 5 + 2, none⟩ (.int .i64 (D.ln j))).setCell ⟨pb, j * 5 + 3, none⟩ (.int .i64 (D.bf j))).setCell ⟨pb, j * 5 + 4, none⟩ (.bool (D.ex j))) pb n D (fun i => if i = j then T else TB i) (j + 1) := by
  obtain ⟨f, hr, hf⟩ := h.row
  refine ⟨⟨_, ((((hr.set (j * 5) _).set (j * 5 + 1) _).set (j * 5 + 2) _).set (j * 5 + 3) _).set (j * 5 + 4) _, fun i hi => ?_⟩, fun i hi => ?_, fun i hi => ?_⟩
  · by_cases e : i = j
    · subst e
      simp only [if_true]
      refine ⟨?_, ?_, ?_, ?_, ?_⟩
      · rw [if_neg (by omega), if_neg (by omega), if_neg (by omega), if_neg (by omega)]
      · rw [if_neg (by omega), if_neg (by omega), if_neg (by omega)]
      · rw [if_neg (by omega), if_neg (by omega)]
      · rw [if_neg (by omega)]
      · trivial
    · obtain ⟨f0, f1, f2, f3, f4⟩ := hf i (by omega)
      rw [if_neg e]
      refine ⟨?_, ?_, ?_, ?_, ?_⟩ <;> rw [if_neg (by omega), if_neg (by omega), if_neg (by omega), if_neg (by omega), if_neg (by omega)] <;> assumption
  · by_cases e : i = j
    · subst e; rw [if_pos rfl]
      exact ((((hT.set hne _).set hne _).set hne _).set hne _).set hne _
    · have h1 := h.txt i (by omega)
      have h2 := h.ne i (by omega)
      rw [if_neg e]
      exact ((((h1.set h2 _).set h2 _).set h2 _).set h2 _).set h2 _
  · by_cases e : i = j
    · rw [if_pos e]; exact hne
    · rw [if_neg e]; exact h.ne i (by omega)

/-- Of a text's row the first q pieces are laid. -/
def TUp (wr : World) (T m : Nat) (S : Nat → ByteArray) (q : Nat) : Prop := ∃ f, wr.rowIs T 79 (m * 2) f ∧ ∀ k, k < q → f (k * 2) = .string (S k) ∧ f (k * 2 + 1) = .pointer none
theorem TUp.start (w : World) (m : Nat) (S : Nat → ByteArray) (c : Array Value) (hc : c.size = m * 2) : TUp (w.alloc (.cells c 79)) w.heap.size m S 0 :=
  ⟨_, hc ▸ World.rowIs_alloc w c 79 (fun i => c.getD i undef) (fun i hi => by simp [Array.getD, hi]), fun i hi => by omega⟩
theorem TUp.step {wr : World} {T m : Nat} {S : Nat → ByteArray} {q : Nat} (h : TUp wr T m S q) : TUp ((wr.setCell ⟨T, q * 2, none⟩ (.string (S q))).setCell ⟨T, q * 2 + 1, none⟩ (.pointer none)) T m S (q + 1) := by
  obtain ⟨f, hr, hf⟩ := h
  refine ⟨_, (hr.set (q * 2) _).set (q * 2 + 1) _, fun k hk => ?_⟩
  by_cases e : k = q
  · subst e
    exact ⟨by rw [if_neg (by omega), if_pos rfl], by rw [if_pos rfl]⟩
  · obtain ⟨h1, h2⟩ := hf k (by omega)
    exact ⟨by rw [if_neg (by omega), if_neg (by omega)]; exact h1, by rw [if_neg (by omega), if_neg (by omega)]; exact h2⟩
theorem TUp.done {wr : World} {T m : Nat} {S : Nat → ByteArray} (h : TUp wr T m S m) : TxtAt wr T m S := fun k hk => by
  obtain ⟨f, hr, hf⟩ := h
  obtain ⟨h1, h2⟩ := hf k hk
  exact ⟨by rw [hr.cell (by omega), h1], by rw [hr.cell (by omega), h2]⟩

/-- The three rows that are handed out, the first j cells of each laid. -/
structure Out (wr : World) (G n : Nat) (an ln bf : Nat → Int) (j : Nat) : Prop where
  an : wr.rowIs G 3 n (fun i => if i < j then .int .i64 (an i) else .int .i64 0)
  ln : wr.rowIs (G + 1) 3 n (fun i => if i < j then .int .i64 (ln i) else .int .i64 0)
  bf : wr.rowIs (G + 2) 3 n (fun i => if i < j then .int .i64 (bf i) else .int .i64 0)

theorem Out.start (w : World) (n : Nat) (an ln bf : Nat → Int) : Out (((w.alloc (.cells (madeCells #[Value.int .i64 0] n) 3)).alloc (.cells (madeCells #[Value.int .i64 0] n) 3)).alloc (.cells (madeCells #[Value.int .i64 0] n) 3)) w.heap.size n an ln bf 0 := by
  refine ⟨?_, ?_, ?_⟩
  · exact (((World.rowIs_made w (.int .i64 0) n 3).alloc _).alloc _).congr fun q _ => by simp
  · have := (World.rowIs_made (w.alloc (.cells (madeCells #[Value.int .i64 0] n) 3)) (.int .i64 0) n 3).alloc (.cells (madeCells #[Value.int .i64 0] n) 3)
    simp only [World.size_alloc] at this
    exact this.congr fun q _ => by simp
  · have := World.rowIs_made ((w.alloc (.cells (madeCells #[Value.int .i64 0] n) 3)).alloc (.cells (madeCells #[Value.int .i64 0] n) 3)) (.int .i64 0) n 3
    simp only [World.size_alloc] at this
    exact this.congr fun q _ => by simp

theorem Out.step {wr : World} {G n : Nat} {an ln bf : Nat → Int} {j : Nat} (h : Out wr G n an ln bf j) :
    Out (((wr.setCell ⟨G, j, none⟩ (.int .i64 (an j))).setCell ⟨G + 1, j, none⟩ (.int .i64 (ln j))).setCell ⟨G + 2, j, none⟩ (.int .i64 (bf j))) G n an ln bf (j + 1) := by
  refine ⟨?_, ?_, ?_⟩
  · exact (((h.an.set j _).setOther (by show G ≠ G + 1; omega) _).setOther (by show G ≠ G + 2; omega) _).congr fun q _ => upto_set' (fun i => Value.int .i64 (an i)) (fun _ => .int .i64 0) j _ rfl q
  · exact (((h.ln.setOther (by show G + 1 ≠ G; omega) _).set j _).setOther (by show G + 1 ≠ G + 2; omega) _).congr fun q _ => upto_set' (fun i => Value.int .i64 (ln i)) (fun _ => .int .i64 0) j _ rfl q
  · exact (((h.bf.setOther (by show G + 2 ≠ G; omega) _).setOther (by show G + 2 ≠ G + 1; omega) _).set j _).congr fun q _ => upto_set' (fun i => Value.int .i64 (bf i)) (fun _ => .int .i64 0) j _ rfl q

set_option maxRecDepth 100000 in
set_option maxHeartbeats 2000000 in
theorem zzchoose_any (B n : Nat) (D : Desc) (w0 w : World) (hS : Sp w0 w B n D n) (hb0 : Below w0.heap.size w0 w) (hC : cost D n ≤ 65536) :
    Calls Try.prog 26 #[.slice (some ⟨B, 0, none⟩) n n, .slice (some ⟨B + 1, 0, none⟩) n n, .slice (some ⟨B + 2, 0, none⟩) n n, .slice (some ⟨B + 3, 0, none⟩) n n, .slice (some ⟨B + 4, 0, none⟩) n n] w
      fun e w' => ∃ (G : Nat) (an ln bf : Nat → Int), e = .returned (.tuple #[.slice (some ⟨G, 0, none⟩) n n, .slice (some ⟨G + 1, 0, none⟩) n n, .slice (some ⟨G + 2, 0, none⟩) n n]) ∧ Out w' G n an ln bf n ∧ (∀ i, i < n → Cho' D n i (an i) (ln i) (bf i) (D.ln i) (D.bf i)) ∧ Below w.heap.size w w' := by
  have HC : Hid (∀ i, i < n → D.m i ≤ 4096 ∧ lensUp D i (D.m i) ≤ 65536 ∧ szUp (D.S i) (D.m i) ≤ 65536 ∧ n ≤ 1024) := fun i hi => cost_one D n i hC hi
  have hn : n ≤ 65536 := by
    by_cases h : 0 < n
    · have := (HC.out 0 h).2.2.2; omega
    · omega
  have hmk := mk_rows (P := Try.prog) 75 81 (.agg #[.slice none 0 0, .int .i64 0, .int .i64 0, .int .i64 0, .bool false]) 5 56 Try.underlying75 Try.info81 (n : Int) n rfl (by omega) (by omega)
  obtain ⟨fB, hrB, hfB⟩ := hS.ps
  have HB : Hid (∀ i, i < n → ∃ A c, fB i = .slice A (D.m i) c ∧ Pcs w0 A (D.m i) (D.S i)) := hfB
  clear hfB
  go_enter Try.func26, Try.ntmps26
  go_wp2
  clear hmk
  go_loopg [14] n (fun k i w' => ∃ (j : Nat) (TB : Nat → Nat), j + k = n ∧ i = .int .i64 j ∧ PUp w' w.heap.size n D TB j ∧ Below w.heap.size w w')
  case atStart => exact ⟨0, fun _ => 0, by omega, rfl, PUp.start w n D _ _ (size_madeCells _ _), (Below.refl _ _).alloc (Nat.le_refl _) _⟩
  case round =>
    obtain ⟨j, TB, hj, rfl, hU, hbel⟩ := hrel
    by_cases hlt : j < n
    · obtain ⟨A, c, hA, hP⟩ := HB.out j hlt
      obtain ⟨hm1, hm2, hm3, hm4⟩ := HC.out j hlt
      have c0 := cell_below hbel (hrB.cell hlt)
      rw [hA] at c0
      have c1 := cell_below hbel (hS.xs.cell hlt)
      have c2 := cell_below hbel (hS.an.cell hlt)
      have c3 := cell_below hbel (hS.ln.cell hlt)
      have c4 := cell_below hbel (hS.bf.cell hlt)
      rw [if_pos hlt] at c1 c2 c3 c4
      have hmk := mk_rows (P := Try.prog) 77 79 (.agg #[.string ByteArray.empty, .pointer none]) 2 24 Try.underlying77 Try.info79 (D.m j : Int) (D.m j) rfl (by omega) (by omega)
      have hsz := hbel.size
      have HU : Hid (PUp wr w.heap.size n D TB j) := hU
      have HP : Hid (Pcs w0 A (D.m j) (D.S j)) := hP
      clear hU hP hA
      rename World => w1
      go_wp2
      clear hmk
      go_loopg [16] (D.m j) (fun k i w' => ∃ (q : Nat), q + k = D.m j ∧ i = .int .i64 q ∧ TUp w' w1.heap.size (D.m j) (D.S j) q ∧ Below w1.heap.size w1 w')
      case atStart => exact ⟨0, by omega, rfl, TUp.start w1 _ _ _ (size_madeCells _ _), (Below.refl _ _).alloc (Nat.le_refl _) _⟩
      case round =>
        obtain ⟨q, hq, rfl, hT, hb2⟩ := hrel
        have e0 := cell_below hb2 c0
        by_cases hqm : q < D.m j
        · obtain ⟨pb, po, rfl, hpc⟩ := HP.out.row (by omega)
          have cq := cell_below hb2 (cell_below hbel (cell_below hb0 (hpc q hqm)))
          obtain ⟨f, hr, _⟩ := id hT
          have r0 := hr.cell (i := q * 2) (by omega)
          have r1 := hr.cell (i := q * 2 + 1) (by omega)
          have rf := fun i => hr.frozen i
          have HE : Hid (TUp ((wr.setCell ⟨w1.heap.size, q * 2, none⟩ (.string (D.S j q))).setCell ⟨w1.heap.size, q * 2 + 1, none⟩ (.pointer none)) w1.heap.size (D.m j) (D.S j) (q + 1)) := hT.step
          clear hpc hr hT
          go_wp2
          go_roundg (gk - 1)
          case measure => omega
          case rel => exact ⟨q + 1, by omega, by go_num, HE.out, (hb2.setCell (Nat.le_refl _) _).setCell (Nat.le_refl _) _⟩
        · obtain rfl : D.m j = q := by omega
          have hU2 := HU.out.below hb2
          have hszz := hb2.size
          have d1 := cell_below hb2 c1
          have d2 := cell_below hb2 c2
          have d3 := cell_below hb2 c3
          have d4 := cell_below hb2 c4
          obtain ⟨f, hr, _⟩ := hU2.row
          have r0 := hr.cell (i := j * 5) (by omega)
          have r1 := hr.cell (i := j * 5 + 1) (by omega)
          have r2 := hr.cell (i := j * 5 + 2) (by omega)
          have r3 := hr.cell (i := j * 5 + 3) (by omega)
          have r4 := hr.cell (i := j * 5 + 4) (by omega)
          have rf := fun i => hr.frozen i
          have hw1 : w1.heap.size ≠ w.heap.size := by
            obtain ⟨f', hr', _⟩ := HU.out.row
            have := hr'.lt
            omega
          have HE : Hid (PUp (((((wr.setCell ⟨w.heap.size, j * 5, none⟩ (.slice (some ⟨w1.heap.size, 0, none⟩) (D.m j) (D.m j))).setCell ⟨w.heap.size, j * 5 + 1, none⟩ (.int .i64 (D.an j))).setCell ⟨w.heap.size, j * 5 + 2, none⟩ (.int .i64 (D.ln j))).setCell ⟨w.heap.size, j * 5 + 3, none⟩ (.int .i64 (D.bf j))).setCell ⟨w.heap.size, j * 5 + 4, none⟩ (.bool (D.ex j))) w.heap.size n D (fun i => if i = j then w1.heap.size else TB i) (j + 1)) := hU2.step w1.heap.size hT.done hw1
          have HB2 : Hid (Below w.heap.size w wr) := hbel.trans (hb2.mono hsz)
          clear hU2 hr hT c0 c1 c2 c3 c4
          go_wp2
          go_region
          go_wp2
          go_roundg (n - (j + 1))
          case measure => omega
          case rel => exact ⟨j + 1, _, by omega, by go_num, HE.out.below (below_drewN (Below.refl _ _) 1), below_drewN (((((HB2.out.setCell (Nat.le_refl _) _).setCell (Nat.le_refl _) _).setCell (Nat.le_refl _) _).setCell (Nat.le_refl _) _).setCell (Nat.le_refl _) _) 1⟩
    · obtain rfl : n = j := by omega
      have hpar := hU.done
      have hmk := mk_row (P := Try.prog) 22 3 (.int .i64 0) 8 Try.underlying22 Try.info3 rfl (n : Int) n rfl (by omega) (by omega)
      have hbsz := hbel.size
      go_wp2_with (go_at_call 35; refine (choose_any w.heap.size n D TB D.an D.ln D.bf wr hpar hC).mono ?_; rintro e w2 ⟨rfl, an, ln, bf, hP2, hpick, hb2⟩)
      clear hmk
      have HB2 : Hid (Below w.heap.size w w2) := hbel.trans hb2
      have hsz2 := HB2.out.size
      have HPk : Hid (∀ i, i < n → Cho' D n i (an i) (ln i) (bf i) (D.ln i) (D.bf i)) := hpick
      clear hpick hpar hU
      go_loopg [17] n (fun k i w' => ∃ (j : Nat), j + k = n ∧ i = .int .i64 j ∧ Out w' w2.heap.size n an ln bf j ∧ Below w2.heap.size w2 w')
      case atStart => exact ⟨0, by omega, rfl, Out.start w2 n an ln bf, (((Below.refl _ _).alloc (Nat.le_refl _) _).alloc (by simp) _).alloc (by simp; omega) _⟩
      case round =>
        obtain ⟨j, hj, rfl, hO, hb3⟩ := hrel
        by_cases hlt : j < n
        · obtain ⟨p0, p1, p2, p3, p4⟩ := hP2.at hlt
          have d1 := cell_below hb3 p1
          have d2 := cell_below hb3 p2
          have d3 := cell_below hb3 p3
          have r0 := hO.an.cell hlt
          have r1 := hO.ln.cell hlt
          have r2 := hO.bf.cell hlt
          rw [if_neg (Nat.lt_irrefl j)] at r0 r1 r2
          have f0 := hO.an.frozen j
          have f1 := hO.ln.frozen j
          have f2 := hO.bf.frozen j
          have hplt : w.heap.size < w2.heap.size := by obtain ⟨f, hr, _⟩ := hP2.row; exact hr.lt
          have HE : Hid (Out (((wr.setCell ⟨w2.heap.size, j, none⟩ (.int .i64 (an j))).setCell ⟨w2.heap.size + 1, j, none⟩ (.int .i64 (ln j))).setCell ⟨w2.heap.size + 2, j, none⟩ (.int .i64 (bf j))) w2.heap.size n an ln bf (j + 1)) := hO.step
          clear hO p0 p1 p2 p3 p4
          go_wp2
          go_roundg (gk - 1)
          case measure => omega
          case rel => exact ⟨j + 1, by omega, by go_num, HE.out, ((hb3.setCell (Nat.le_refl _) _).setCell (by show w2.heap.size ≤ w2.heap.size + 1; omega) _).setCell (by show w2.heap.size ≤ w2.heap.size + 2; omega) _⟩
        · obtain rfl : n = j := by omega
          go_wp2
          refine bodyPost_ret (v := .tuple #[.slice (some ⟨w2.heap.size, 0, none⟩) n n, .slice (some ⟨w2.heap.size + 1, 0, none⟩) n n, .slice (some ⟨w2.heap.size + 2, 0, none⟩) n n]) ?_ rfl ⟨w2.heap.size, an, ln, bf, rfl, hO, HPk.out, HB2.out.trans (hb3.mono hsz2)⟩
          simp [results, Try.results26, go_sem]

end Go.Proofs.Qxb6602406a
