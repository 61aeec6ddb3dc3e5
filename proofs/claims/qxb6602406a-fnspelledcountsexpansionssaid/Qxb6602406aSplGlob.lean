/-
  Seat b6602406a: the walk of toGlob.
-/
import Derived.Test.Qxb6602406aSplCopy
import Derived.Deep.RegionWith
namespace Go.Proofs.Qxb6602406a.Spell
open Go.RowKit

theorem Try.info73 : (Try.prog.info? 73).map (fun i => (i.zero, i.size, i.bytes)) = some (some (.agg #[.int .i64 0, .string ByteArray.empty, .pointer none, .slice none 0 0]), 4, 56) := by kernel_rfl
theorem Try.info36 : (Try.prog.info? 36).map (fun i => (i.zero, i.size, i.bytes)) = some (some (.slice none 0 0), 1, 24) := by kernel_rfl

set_option maxRecDepth 100000 in
theorem makeToken_any (k : Int) (l : ByteArray) (a : Option Addr) (m c : Nat) (w : World) :
    Calls Try.prog 33 #[.int .i64 k, .string l, .slice a m c] w fun e w' => e = .returned (.agg #[.int .i64 k, .string l, .pointer none, .slice a m c]) ∧ Below w.heap.size w w' := by
  go_enter Try.func33, Try.ntmps33
  go_wp2
  refine bodyPost_ret (v := .agg #[.int .i64 k, .string l, .pointer none, .slice a m c]) ?_ rfl ⟨rfl, (Below.refl _ _).alloc (Nat.le_refl _) _⟩
  simp [results, Try.results33, go_sem]

/-- Of a row of the program's own tokens at block B the first j are laid. -/
def GU (wr : World) (B d : Nat) (T : Tree) (j : Nat) : Prop :=
  ∃ f, wr.rowIs B 73 (T.N * 4) f ∧ ∀ i, i < j → f (i * 4) = .int .i64 (T.K i) ∧ f (i * 4 + 1) = .string (T.L i) ∧ f (i * 4 + 2) = .pointer none ∧ Opts (At 4 3 wr (B + 1) d) wr (B + 1) T i (f (i * 4 + 3))

theorem GU.start (w : World) (d : Nat) (T : Tree) (c : Array Value) (hc : c.size = T.N * 4) : GU (w.alloc (.cells c 73)) w.heap.size d T 0 :=
  ⟨_, hc ▸ World.rowIs_alloc w c 73 (fun i => c.getD i undef) (fun i hi => by simp [Array.getD, hi]), fun i hi => by omega⟩

theorem GU.below {wr w' : World} {B d : Nat} {T : Tree} {j : Nat} (h : GU wr B d T j) (hb : Below wr.heap.size wr w') : GU w' B d T j := by
  obtain ⟨f, hr, hf⟩ := h
  exact ⟨f, hr.of_block (hb.block _ hr.lt), fun i hi => ⟨(hf i hi).1, (hf i hi).2.1, (hf i hi).2.2.1, (hf i hi).2.2.2.imp (Below.keeps hb) (Nat.le_refl _) (fun _ _ h => h.below hb)⟩⟩

theorem GU.step {wr : World} {B d : Nat} {T : Tree} {j : Nat} {v : Value} (h : GU wr B d T j) (ho : Opts (At 4 3 wr (B + 1) d) wr (B + 1) T j v) :
    GU ((((wr.setCell ⟨B, j * 4, none⟩ (.int .i64 (T.K j))).setCell ⟨B, j * 4 + 1, none⟩ (.string (T.L j))).setCell ⟨B, j * 4 + 2, none⟩ (.pointer none)).setCell ⟨B, j * 4 + 3, none⟩ v) B d T (j + 1) := by
  obtain ⟨f, hr, hf⟩ := h
  have hk : Keeps (B + 1) wr ((((wr.setCell ⟨B, j * 4, none⟩ (.int .i64 (T.K j))).setCell ⟨B, j * 4 + 1, none⟩ (.string (T.L j))).setCell ⟨B, j * 4 + 2, none⟩ (.pointer none)).setCell ⟨B, j * 4 + 3, none⟩ v) := fun b hb _ => by
    rw [Below.heap_setCell _ ⟨B, j * 4 + 3, none⟩ v b (by show b ≠ B; omega), Below.heap_setCell _ ⟨B, j * 4 + 2, none⟩ _ b (by show b ≠ B; omega), Below.heap_setCell _ ⟨B, j * 4 + 1, none⟩ _ b (by show b ≠ B; omega), Below.heap_setCell _ ⟨B, j * 4, none⟩ _ b (by show b ≠ B; omega)]
  refine ⟨_, (((hr.set (j * 4) _).set (j * 4 + 1) _).set (j * 4 + 2) _).set (j * 4 + 3) _, fun i hi => ?_⟩
  by_cases e : i = j
  · subst e
    refine ⟨?_, ?_, ?_, ?_⟩
    · rw [if_neg (by omega), if_neg (by omega), if_neg (by omega), if_pos rfl]
    · rw [if_neg (by omega), if_neg (by omega), if_pos rfl]
    · rw [if_neg (by omega), if_pos rfl]
    · rw [if_pos rfl]; exact ho.imp hk (Nat.le_refl _) (fun _ _ h => h.keep hk)
  · obtain ⟨h0, h1, h2, h3⟩ := hf i (by omega)
    refine ⟨?_, ?_, ?_, ?_⟩
    · rw [if_neg (by omega), if_neg (by omega), if_neg (by omega), if_neg (by omega)]; exact h0
    · rw [if_neg (by omega), if_neg (by omega), if_neg (by omega), if_neg (by omega)]; exact h1
    · rw [if_neg (by omega), if_neg (by omega), if_neg (by omega), if_neg (by omega)]; exact h2
    · rw [if_neg (by omega), if_neg (by omega), if_neg (by omega), if_neg (by omega)]; exact h3.imp hk (Nat.le_refl _) (fun _ _ h => h.keep hk)

theorem GU.done {wr : World} {B d : Nat} {T : Tree} (h : GU wr B d T T.N) (hN : T.N ≤ 4398046511104) : At 4 3 wr B (d + 1) (.slice (some ⟨B, 0, none⟩) T.N T.N) T := by
  obtain ⟨f, hr, hf⟩ := h
  refine ⟨_, _, rfl, fun e => (by cases e), hN, .inr ⟨B, 0, rfl, Nat.le_refl _, fun i hi => ?_⟩⟩
  obtain ⟨h0, h1, h2, h3⟩ := hf i hi
  refine ⟨?_, ?_, fun _ => ?_, f (i * 4 + 3), ?_, ?_⟩
  · rw [Nat.zero_add, hr.cell (by omega), h0]
  · rw [Nat.zero_add, hr.cell (by omega), h1]
  · rw [Nat.zero_add, hr.cell (by omega), h2]
  · rw [Nat.zero_add, hr.cell (by omega)]
  · exact h3.imp (fun _ _ _ => rfl) (by omega) (fun _ _ h => h.low (by omega))

theorem GU.stepB {w wr w2 : World} {d : Nat} {T : Tree} {j : Nat} {v : Value} (h : GU wr w.heap.size d T j) (hb : Below w.heap.size w wr) (ho : Opts (At 4 3 wr (w.heap.size + 1) d) wr (w.heap.size + 1) T j v) (h2 : Below wr.heap.size wr w2) (N : Nat) :
    GU (((((w2.setCell ⟨w.heap.size, j * 4, none⟩ (.int .i64 (T.K j))).setCell ⟨w.heap.size, j * 4 + 1, none⟩ (.string (T.L j))).setCell ⟨w.heap.size, j * 4 + 2, none⟩ (.pointer none)).setCell ⟨w.heap.size, j * 4 + 3, none⟩ v).drewN N) w.heap.size d T (j + 1) ∧
    Below w.heap.size w (((((w2.setCell ⟨w.heap.size, j * 4, none⟩ (.int .i64 (T.K j))).setCell ⟨w.heap.size, j * 4 + 1, none⟩ (.string (T.L j))).setCell ⟨w.heap.size, j * 4 + 2, none⟩ (.pointer none)).setCell ⟨w.heap.size, j * 4 + 3, none⟩ v).drewN N) :=
  ⟨((h.below h2).step (ho.imp (Below.keeps h2) (Nat.le_refl _) (fun _ _ h => h.below h2))).below (below_drewN (Below.refl _ _) N), below_drewN (((((hb.trans (h2.mono hb.size)).setCell (Nat.le_refl _) _).setCell (Nat.le_refl _) _).setCell (Nat.le_refl _) _).setCell (Nat.le_refl _) _) N⟩

set_option maxRecDepth 100000 in
set_option maxHeartbeats 2000000 in
theorem toGlob_any (d : Nat) : ∀ (v : Value) (T : Tree) (w : World) (lo : Nat), At 3 2 w lo d v T →
    Calls Try.prog 17 #[v] w fun e w' => ∃ v', e = .returned v' ∧ At 4 3 w' w.heap.size d v' T ∧ Below w.heap.size w w' := by
  induction d with
  | zero => intro v T w lo h; exact h.elim
  | succ d ih =>
    rintro v T w lo ⟨ao, c, rfl, hnil, hN, hrow⟩
    have IH : Hid (∀ (v : Value) (T : Tree) (w : World) (lo : Nat), At 3 2 w lo d v T → Calls Try.prog 17 #[v] w fun e w' => ∃ v', e = .returned v' ∧ At 4 3 w' w.heap.size d v' T ∧ Below w.heap.size w w') := ih
    clear ih
    cases ao with
    | none =>
      obtain ⟨h0, rfl⟩ := hnil rfl
      clear hnil hrow
      have hnl := fun w => Lib.run_eql_slice_nil (P := Try.prog) w 31 68 none 0 0 0 0 Try.underlying31
      rw [h0]
      go_enter Try.func17, Try.ntmps17
      go_wp2
      go_ret
      exact ⟨_, rfl, ⟨none, 0, by rw [h0]; rfl, fun _ => ⟨h0, rfl⟩, hN, .inl h0⟩, Below.refl _ _⟩
    | some x =>
      clear hnil
      have hnl := fun w => Lib.run_eql_slice_nil (P := Try.prog) w 31 68 (some x) T.N c 0 0 Try.underlying31
      have hmk := mk_rows (P := Try.prog) 36 73 (.agg #[.int .i64 0, .string ByteArray.empty, .pointer none, .slice none 0 0]) 4 56 Try.underlying36 Try.info73 (T.N : Int) T.N rfl (by omega) (by omega)
      go_enter Try.func17, Try.ntmps17
      go_wp2
      clear hmk hnl
      go_loopg [4] T.N (fun k i w' => ∃ (j : Nat), j + k = T.N ∧ i = .int .i64 j ∧ GU w' w.heap.size d T j ∧ Below w.heap.size w w')
      case atStart => exact ⟨0, by omega, rfl, GU.start w d T _ (size_madeCells _ _), (Below.refl _ _).alloc (Nat.le_refl _) _⟩
      case round =>
        obtain ⟨j, hj, rfl, hC, hbel⟩ := hrel
        by_cases hlt : j < T.N
        · rcases hrow with h | ⟨b, o, e, hlo, hrow⟩
          · omega
          · injection e with e
            subst e
            obtain ⟨c0, c1, _, v', c2, oo, oc, rfl, hon, hM, hopt⟩ := hrow j hlt
            have hb : b < w.heap.size := World.block_lt_of_cell? w _ c0
            have d0 := cell_below hbel c0
            have d1 := cell_below hbel c1
            have d2 := cell_below hbel c2
            have hneq := fun w => run_neq_slice_nil_any (P := Try.prog) w 66 31 oo (T.M j) oc 0 0 Try.underlying66
            have hsz := hbel.size
            have HO : Hid (T.M j = 0 ∨ ∃ b o, oo = some ⟨b, o, none⟩ ∧ lo ≤ b ∧ ∀ k, k < T.M j → ∃ v', w.cell? ⟨b, o + k, none⟩ = some v' ∧ At 3 2 w lo d v' (T.sub j k)) := hopt
            have HC : Hid (GU wr w.heap.size d T j) := hC
            clear hrow hopt
            cases oo with
            | none =>
              have HM : Hid (T.M j = 0) := hon rfl
              clear hon
              obtain ⟨f, hr, _⟩ := id hC
              have rl := hr.lt
              have r0 := hr.cell (i := j * 4) (by omega)
              have r1 := hr.cell (i := j * 4 + 1) (by omega)
              have r2 := hr.cell (i := j * 4 + 2) (by omega)
              have r3 := hr.cell (i := j * 4 + 3) (by omega)
              have rf := fun i => hr.frozen i
              have hmt : Calls Try.prog 33 #[.int .i64 (T.K j), .string (T.L j), .slice none 0 0] wr.drew fun e w' => e = .returned (.agg #[.int .i64 (T.K j), .string (T.L j), .pointer none, .slice none 0 0]) ∧ Below wr.heap.size wr w' :=
                (makeToken_any (T.K j) (T.L j) _ _ _ wr.drew).mono fun e w' h => ⟨h.1, h.2.os, h.2.tape, h.2.output, h.2.size, h.2.block⟩
              have Hr : Hid (wr.rowIs w.heap.size 73 (T.N * 4) f) := hr
              clear hr
              go_wp2
              go_region_with (go_at_call 33; refine hmt.mono ?_; rintro e w2 ⟨rfl, h2⟩; have hr2 := Hr.out.of_block (h2.block _ rl); have s0 := hr2.cell (i := j * 4) (by omega); have s1 := hr2.cell (i := j * 4 + 1) (by omega); have s2 := hr2.cell (i := j * 4 + 2) (by omega); have s3 := hr2.cell (i := j * 4 + 3) (by omega); have sf := fun i => hr2.frozen i; have z0 := cell_below h2 d0; have z1 := cell_below h2 d1; clear hr2)
              all_goals
               go_wp2
               have hst := HC.out.stepB hbel ⟨none, 0, by rw [HM.out], fun _ => HM.out, hM, .inl HM.out⟩ h2 0
               go_roundg (gk - 1)
               case measure => omega
               case rel => exact ⟨j + 1, by omega, by go_num, hst.1, hst.2⟩
            | some y =>
              clear hon hC
              have hmk := mk_row (P := Try.prog) 69 36 (.slice none 0 0) 24 Try.underlying69 Try.info36 rfl (T.M j : Int) (T.M j) rfl (by omega) (by omega)
              rename World => w1
              go_wp2
              clear hmk hneq
              go_loopg [6] (T.M j) (fun k i w' => ∃ (q : Nat), q + k = T.M j ∧ i = .int .i64 q ∧ OU 4 3 36 w' w1.heap.size d T j q ∧ Below w1.heap.size w1 w')
              case atStart => exact ⟨0, by omega, rfl, OU.start w1 d T j _, (Below.refl _ _).alloc (Nat.le_refl _) _⟩
              case round =>
                obtain ⟨q, hq, rfl, hO, hb2⟩ := hrel
                have e2 := cell_below hb2 d2
                have hsz2 := hb2.size
                by_cases hqm : q < T.M j
                · rcases HO.out with h | ⟨b', o', e, hlo', hopt⟩
                  · omega
                  · injection e with e
                    subst e
                    obtain ⟨v', cq, hat⟩ := hopt q hqm
                    have dq := cell_below hb2 (cell_below hbel cq)
                    have hcall := IH.out v' (T.sub j q) wr lo ((hat.below hbel).below hb2)
                    obtain ⟨f, hr, _⟩ := id hO
                    have hOlt := hr.lt
                    clear hopt cq hat
                    go_wp2_with (go_at_call 17; refine hcall.mono ?_; rintro e w2 ⟨v2, rfl, hat2, hb3⟩; obtain ⟨a2, c2', rfl⟩ := hat2.slice; have hr2 := hr.of_block (hb3.block _ hr.lt); have r0 := hr2.cell hqm; have rf := hr2.frozen q; clear hr2)
                    go_roundg (gk - 1)
                    case measure => omega
                    case rel => exact ⟨q + 1, by omega, by go_num, hO.step hb3 hat2, (hb2.trans (hb3.mono hsz2)).setCell (Nat.le_refl _) _⟩
                · obtain rfl : T.M j = q := by omega
                  have hC2 := HC.out.below hb2
                  have hw1 : w.heap.size < w1.heap.size := by obtain ⟨f, hr, _⟩ := HC.out; exact hr.lt
                  have e0 := cell_below hb2 d0
                  have e1 := cell_below hb2 d1
                  have HB2 : Hid (Below w.heap.size w wr) := hbel.trans (hb2.mono hsz)
                  have HOd : Hid (Opts (At 4 3 wr (w.heap.size + 1) d) wr (w.heap.size + 1) T j (.slice (some ⟨w1.heap.size, 0, none⟩) (T.M j) (T.M j))) := hO.done hw1 hM
                  clear hO
                  obtain ⟨f, hr, _⟩ := id hC2
                  have rl := hr.lt
                  have r0 := hr.cell (i := j * 4) (by omega)
                  have r1 := hr.cell (i := j * 4 + 1) (by omega)
                  have r2 := hr.cell (i := j * 4 + 2) (by omega)
                  have r3 := hr.cell (i := j * 4 + 3) (by omega)
                  have rf := fun i => hr.frozen i
                  have hmt : Calls Try.prog 33 #[.int .i64 (T.K j), .string (T.L j), .slice (some ⟨w1.heap.size, 0, none⟩) (T.M j) (T.M j)] wr.drew fun e w' => e = .returned (.agg #[.int .i64 (T.K j), .string (T.L j), .pointer none, .slice (some ⟨w1.heap.size, 0, none⟩) (T.M j) (T.M j)]) ∧ Below wr.heap.size wr w' :=
                    (makeToken_any (T.K j) (T.L j) _ _ _ wr.drew).mono fun e w' h => ⟨h.1, h.2.os, h.2.tape, h.2.output, h.2.size, h.2.block⟩
                  have Hr : Hid (wr.rowIs w.heap.size 73 (T.N * 4) f) := hr
                  clear hr
                  go_wp2
                  go_region_with (go_at_call 33; refine hmt.mono ?_; rintro e w2 ⟨rfl, h2⟩; have hr2 := Hr.out.of_block (h2.block _ rl); have s0 := hr2.cell (i := j * 4) (by omega); have s1 := hr2.cell (i := j * 4 + 1) (by omega); have s2 := hr2.cell (i := j * 4 + 2) (by omega); have s3 := hr2.cell (i := j * 4 + 3) (by omega); have sf := fun i => hr2.frozen i; have z0 := cell_below h2 e0; have z1 := cell_below h2 e1; clear hr2)
                  all_goals
                   go_wp2
                   have hst := hC2.stepB HB2.out HOd.out h2 0
                   go_roundg (T.N - (j + 1))
                   case measure => omega
                   case rel => exact ⟨j + 1, by omega, by go_num, hst.1, hst.2⟩
        · obtain rfl : T.N = j := by omega
          go_wp2
          go_ret
          exact ⟨_, rfl, hC.done hN, hbel⟩

end Go.Proofs.Qxb6602406a.Spell
