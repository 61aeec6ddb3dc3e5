/-
  Seat b6602406a: the walk of copyToks.
-/
import Derived.Test.Qxb6602406aSplTok
namespace Go.Proofs.Qxb6602406a.Spell
open Go.RowKit

theorem Try.info68 : (Try.prog.info? 68).map (fun i => (i.zero, i.size, i.bytes)) = some (some (.agg #[.int .i64 0, .string ByteArray.empty, .slice none 0 0]), 3, 48) := by kernel_rfl
theorem Try.info31 : (Try.prog.info? 31).map (fun i => (i.zero, i.size, i.bytes)) = some (some (.slice none 0 0), 1, 24) := by kernel_rfl

theorem At.slice {s po : Nat} {w : World} {lo d : Nat} {v : Value} {T : Tree} (h : At s po w lo d v T) : ∃ ao c, v = .slice ao T.N c := by
  cases d with
  | zero => exact h.elim
  | succ d => obtain ⟨ao, c, h1, _⟩ := h; exact ⟨ao, c, h1⟩

/-- Of a row of options at block O the first q are laid. -/
def OU (s po e : Nat) (wr : World) (O d : Nat) (T : Tree) (i q : Nat) : Prop :=
  ∃ f, wr.rowIs O e (T.M i) f ∧ ∀ k, k < q → At s po wr (O + 1) d (f k) (T.sub i k)

theorem OU.start {s po e : Nat} (w : World) (d : Nat) (T : Tree) (i : Nat) (z : Value) : OU s po e (w.alloc (.cells (madeCells #[z] (T.M i)) e)) w.heap.size d T i 0 :=
  ⟨_, World.rowIs_made w z (T.M i) e, fun k hk => absurd hk (by omega)⟩

theorem keeps_set {wr : World} {O lo : Nat} (h : O < lo) (o : Nat) (v : Value) : Keeps lo wr (wr.setCell ⟨O, o, none⟩ v) := fun b hb _ => Below.heap_setCell wr ⟨O, o, none⟩ v b (by show b ≠ O; omega)

theorem OU.step {s po e : Nat} {wr w2 : World} {O d : Nat} {T : Tree} {i q : Nat} {v : Value} (h : OU s po e wr O d T i q) (hb : Below wr.heap.size wr w2) (hat : At s po w2 wr.heap.size d v (T.sub i q)) :
    OU s po e (w2.setCell ⟨O, q, none⟩ v) O d T i (q + 1) := by
  obtain ⟨f, hr, hf⟩ := h
  have hlt := hr.lt
  refine ⟨_, (hr.of_block (hb.block _ hlt)).set q v, fun k hk => ?_⟩
  by_cases e : k = q
  · subst e
    rw [if_pos rfl]
    exact (hat.low (show O + 1 ≤ wr.heap.size by omega)).keep (keeps_set (by omega) _ _)
  · rw [if_neg e]
    exact ((hf k (by omega)).below hb).keep (keeps_set (by omega) _ _)

theorem OU.done {s po e : Nat} {wr : World} {O d B : Nat} {T : Tree} {i : Nat} (h : OU s po e wr O d T i (T.M i)) (hB : B < O) (hM : T.M i ≤ 8796093022208) : Opts (At s po wr (B + 1) d) wr (B + 1) T i (.slice (some ⟨O, 0, none⟩) (T.M i) (T.M i)) := by
  obtain ⟨f, hr, hf⟩ := h
  exact ⟨_, _, rfl, fun e => (by cases e), hM, .inr ⟨O, 0, rfl, by omega, fun k hk => ⟨f k, by rw [Nat.zero_add]; exact hr.cell hk, (hf k hk).low (by omega)⟩⟩⟩

/-- Of a row of tokens at block B the first j are laid. -/
def CU (wr : World) (B d : Nat) (T : Tree) (j : Nat) : Prop :=
  ∃ f, wr.rowIs B 68 (T.N * 3) f ∧ ∀ i, i < j → f (i * 3) = .int .i64 (T.K i) ∧ f (i * 3 + 1) = .string (T.L i) ∧ Opts (At 3 2 wr (B + 1) d) wr (B + 1) T i (f (i * 3 + 2))

theorem CU.start (w : World) (d : Nat) (T : Tree) (c : Array Value) (hc : c.size = T.N * 3) : CU (w.alloc (.cells c 68)) w.heap.size d T 0 :=
  ⟨_, hc ▸ World.rowIs_alloc w c 68 (fun i => c.getD i undef) (fun i hi => by simp [Array.getD, hi]), fun i hi => by omega⟩

theorem CU.below {wr w' : World} {B d : Nat} {T : Tree} {j : Nat} (h : CU wr B d T j) (hb : Below wr.heap.size wr w') : CU w' B d T j := by
  obtain ⟨f, hr, hf⟩ := h
  exact ⟨f, hr.of_block (hb.block _ hr.lt), fun i hi => ⟨(hf i hi).1, (hf i hi).2.1, (hf i hi).2.2.imp (Below.keeps hb) (Nat.le_refl _) (fun _ _ h => h.below hb)⟩⟩

theorem CU.step {wr : World} {B d : Nat} {T : Tree} {j : Nat} {v : Value} (h : CU wr B d T j) (ho : Opts (At 3 2 wr (B + 1) d) wr (B + 1) T j v) :
    CU (((wr.setCell ⟨B, j * 3, none⟩ (.int .i64 (T.K j))).setCell ⟨B, j * 3 + 1, none⟩ (.string (T.L j))).setCell ⟨B, j * 3 + 2, none⟩ v) B d T (j + 1) := by
  obtain ⟨f, hr, hf⟩ := h
  have hk : Keeps (B + 1) wr (((wr.setCell ⟨B, j * 3, none⟩ (.int .i64 (T.K j))).setCell ⟨B, j * 3 + 1, none⟩ (.string (T.L j))).setCell ⟨B, j * 3 + 2, none⟩ v) := fun b hb _ => by
    rw [Below.heap_setCell _ ⟨B, j * 3 + 2, none⟩ v b (by show b ≠ B; omega), Below.heap_setCell _ ⟨B, j * 3 + 1, none⟩ _ b (by show b ≠ B; omega), Below.heap_setCell _ ⟨B, j * 3, none⟩ _ b (by show b ≠ B; omega)]
  refine ⟨_, ((hr.set (j * 3) _).set (j * 3 + 1) _).set (j * 3 + 2) _, fun i hi => ?_⟩
  by_cases e : i = j
  · subst e
    refine ⟨?_, ?_, ?_⟩
    · rw [if_neg (by omega), if_neg (by omega), if_pos rfl]
    · rw [if_neg (by omega), if_pos rfl]
    · rw [if_pos rfl]; exact ho.imp hk (Nat.le_refl _) (fun _ _ h => h.keep hk)
  · obtain ⟨h0, h1, h2⟩ := hf i (by omega)
    refine ⟨?_, ?_, ?_⟩
    · rw [if_neg (by omega), if_neg (by omega), if_neg (by omega)]; exact h0
    · rw [if_neg (by omega), if_neg (by omega), if_neg (by omega)]; exact h1
    · rw [if_neg (by omega), if_neg (by omega), if_neg (by omega)]; exact h2.imp hk (Nat.le_refl _) (fun _ _ h => h.keep hk)

theorem CU.done {wr : World} {B d : Nat} {T : Tree} (h : CU wr B d T T.N) (hN : T.N ≤ 4398046511104) : At 3 2 wr B (d + 1) (.slice (some ⟨B, 0, none⟩) T.N T.N) T := by
  obtain ⟨f, hr, hf⟩ := h
  refine ⟨_, _, rfl, fun e => (by cases e), hN, .inr ⟨B, 0, rfl, Nat.le_refl _, fun i hi => ?_⟩⟩
  obtain ⟨h0, h1, h2⟩ := hf i hi
  refine ⟨?_, ?_, fun e => absurd e (by omega), f (i * 3 + 2), ?_, ?_⟩
  · rw [Nat.zero_add, hr.cell (by omega), h0]
  · rw [Nat.zero_add, hr.cell (by omega), h1]
  · rw [Nat.zero_add, hr.cell (by omega)]
  · exact h2.imp (fun _ _ _ => rfl) (by omega) (fun _ _ h => h.low (by omega))

set_option maxRecDepth 100000 in
set_option maxHeartbeats 2000000 in
theorem copyToks_any (d : Nat) : ∀ (v : Value) (T : Tree) (w : World) (lo : Nat), At 3 2 w lo d v T →
    Calls Try.prog 15 #[v] w fun e w' => ∃ v', e = .returned v' ∧ At 3 2 w' w.heap.size d v' T ∧ Below w.heap.size w w' := by
  induction d with
  | zero => intro v T w lo h; exact h.elim
  | succ d ih =>
    rintro v T w lo ⟨ao, c, rfl, hnil, hN, hrow⟩
    have IH : Hid (∀ (v : Value) (T : Tree) (w : World) (lo : Nat), At 3 2 w lo d v T → Calls Try.prog 15 #[v] w fun e w' => ∃ v', e = .returned v' ∧ At 3 2 w' w.heap.size d v' T ∧ Below w.heap.size w w') := ih
    clear ih
    cases ao with
    | none =>
      obtain ⟨h0, rfl⟩ := hnil rfl
      clear hnil hrow
      have hnl := fun w => Lib.run_eql_slice_nil (P := Try.prog) w 31 68 none 0 0 0 0 Try.underlying31
      rw [h0]
      go_enter Try.func15, Try.ntmps15
      go_wp2
      go_ret
      exact ⟨_, rfl, ⟨none, 0, by rw [h0]; rfl, fun _ => ⟨h0, rfl⟩, hN, .inl h0⟩, Below.refl _ _⟩
    | some x =>
      clear hnil
      have hnl := fun w => Lib.run_eql_slice_nil (P := Try.prog) w 31 68 (some x) T.N c 0 0 Try.underlying31
      have hmk := mk_rows (P := Try.prog) 31 68 (.agg #[.int .i64 0, .string ByteArray.empty, .slice none 0 0]) 3 48 Try.underlying31 Try.info68 (T.N : Int) T.N rfl (by omega) (by omega)
      go_enter Try.func15, Try.ntmps15
      go_wp2
      clear hmk hnl
      go_loopg [4] T.N (fun k i w' => ∃ (j : Nat), j + k = T.N ∧ i = .int .i64 j ∧ CU w' w.heap.size d T j ∧ Below w.heap.size w w')
      case atStart => exact ⟨0, by omega, rfl, CU.start w d T _ (size_madeCells _ _), (Below.refl _ _).alloc (Nat.le_refl _) _⟩
      case round =>
        obtain ⟨j, hj, rfl, hC, hbel⟩ := hrel
        by_cases hlt : j < T.N
        · rcases hrow with h | ⟨b, o, e, hlo, hrow⟩
          · omega
          · injection e with e
            subst e
            obtain ⟨c0, c1, _, v', c2, oo, oc, rfl, hon, hM, hopt⟩ := hrow j hlt
            have hb : b < w.heap.size := World.block_lt_of_cell? w _ c0
            have d0 := cell_below hbel c0
            have d1 := cell_below hbel c1
            have d2 := cell_below hbel c2
            have hneq := fun w => run_neq_slice_nil_any (P := Try.prog) w 66 31 oo (T.M j) oc 0 0 Try.underlying66
            have hsz := hbel.size
            have HO : Hid (T.M j = 0 ∨ ∃ b o, oo = some ⟨b, o, none⟩ ∧ lo ≤ b ∧ ∀ k, k < T.M j → ∃ v', w.cell? ⟨b, o + k, none⟩ = some v' ∧ At 3 2 w lo d v' (T.sub j k)) := hopt
            have HC : Hid (CU wr w.heap.size d T j) := hC
            clear hrow hopt
            cases oo with
            | none =>
              have HM : Hid (T.M j = 0) := hon rfl
              clear hon
              obtain ⟨f, hr, _⟩ := hC
              have r0 := hr.cell (i := j * 3) (by omega)
              have r1 := hr.cell (i := j * 3 + 1) (by omega)
              have r2 := hr.cell (i := j * 3 + 2) (by omega)
              have rf := fun i => hr.frozen i
              have HE : Hid (CU (((wr.setCell ⟨w.heap.size, j * 3, none⟩ (.int .i64 (T.K j))).setCell ⟨w.heap.size, j * 3 + 1, none⟩ (.string (T.L j))).setCell ⟨w.heap.size, j * 3 + 2, none⟩ (.slice none 0 0)) w.heap.size d T (j + 1)) := HC.out.step ⟨none, 0, by rw [HM.out], fun _ => HM.out, hM, .inl HM.out⟩
              clear hr
              go_wp2
              go_region
              go_wp2
              go_roundg (gk - 1)
              case measure => omega
              case rel => exact ⟨j + 1, by omega, by go_num, HE.out.below (below_drewN (Below.refl _ _) 1), below_drewN (((hbel.setCell (Nat.le_refl _) _).setCell (Nat.le_refl _) _).setCell (Nat.le_refl _) _) 1⟩
            | some y =>
              clear hon hC
              have hmk := mk_row (P := Try.prog) 66 31 (.slice none 0 0) 24 Try.underlying66 Try.info31 rfl (T.M j : Int) (T.M j) rfl (by omega) (by omega)
              rename World => w1
              go_wp2
              clear hmk hneq
              go_loopg [6] (T.M j) (fun k i w' => ∃ (q : Nat), q + k = T.M j ∧ i = .int .i64 q ∧ OU 3 2 31 w' w1.heap.size d T j q ∧ Below w1.heap.size w1 w')
              case atStart => exact ⟨0, by omega, rfl, OU.start w1 d T j _, (Below.refl _ _).alloc (Nat.le_refl _) _⟩
              case round =>
                obtain ⟨q, hq, rfl, hO, hb2⟩ := hrel
                have e2 := cell_below hb2 d2
                have hsz2 := hb2.size
                by_cases hqm : q < T.M j
                · rcases HO.out with h | ⟨b', o', e, hlo', hopt⟩
                  · omega
                  · injection e with e
                    subst e
                    obtain ⟨v', cq, hat⟩ := hopt q hqm
                    have dq := cell_below hb2 (cell_below hbel cq)
                    have hcall := IH.out v' (T.sub j q) wr lo ((hat.below hbel).below hb2)
                    obtain ⟨f, hr, _⟩ := id hO
                    have hOlt := hr.lt
                    clear hopt cq hat
                    go_wp2_with (go_at_call 15; refine hcall.mono ?_; rintro e w2 ⟨v2, rfl, hat2, hb3⟩; obtain ⟨a2, c2', rfl⟩ := hat2.slice; have hr2 := hr.of_block (hb3.block _ hr.lt); have r0 := hr2.cell hqm; have rf := hr2.frozen q; clear hr2)
                    go_roundg (gk - 1)
                    case measure => omega
                    case rel => exact ⟨q + 1, by omega, by go_num, hO.step hb3 hat2, (hb2.trans (hb3.mono hsz2)).setCell (Nat.le_refl _) _⟩
                · obtain rfl : T.M j = q := by omega
                  have hC2 := HC.out.below hb2
                  have hw1 : w.heap.size < w1.heap.size := by obtain ⟨f, hr, _⟩ := HC.out; exact hr.lt
                  have e0 := cell_below hb2 d0
                  have e1 := cell_below hb2 d1
                  obtain ⟨f, hr, _⟩ := id hC2
                  have r0 := hr.cell (i := j * 3) (by omega)
                  have r1 := hr.cell (i := j * 3 + 1) (by omega)
                  have r2 := hr.cell (i := j * 3 + 2) (by omega)
                  have rf := fun i => hr.frozen i
                  have HE : Hid (CU (((wr.setCell ⟨w.heap.size, j * 3, none⟩ (.int .i64 (T.K j))).setCell ⟨w.heap.size, j * 3 + 1, none⟩ (.string (T.L j))).setCell ⟨w.heap.size, j * 3 + 2, none⟩ (.slice (some ⟨w1.heap.size, 0, none⟩) (T.M j) (T.M j))) w.heap.size d T (j + 1)) := hC2.step (hO.done hw1 hM)
                  have HB2 : Hid (Below w.heap.size w wr) := hbel.trans (hb2.mono hsz)
                  clear hr hC2 hO
                  go_wp2
                  go_region
                  go_wp2
                  go_roundg (T.N - (j + 1))
                  case measure => omega
                  case rel => exact ⟨j + 1, by omega, by go_num, HE.out.below (below_drewN (Below.refl _ _) 1), below_drewN (((HB2.out.setCell (Nat.le_refl _) _).setCell (Nat.le_refl _) _).setCell (Nat.le_refl _) _) 1⟩
        · obtain rfl : T.N = j := by omega
          go_wp2
          go_ret
          exact ⟨_, rfl, hC.done hN, hbel⟩

end Go.Proofs.Qxb6602406a.Spell
