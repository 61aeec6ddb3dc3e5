/-
  Seat b6602406a: the walk of modelSeq.
-/
import Derived.Test.Qxb6602406aSplModTok
import Derived.Deep.RegionWith
namespace Go.Proofs.Qxb6602406a.Spell
open Go.RowKit

/-- A row of n numbers at block B: those of the places of which P holds are F's. -/
def Row (w : World) (B n : Nat) (F : Nat → Nat) (P : Nat → Prop) : Prop := ∃ f, w.rowIs B 3 n f ∧ ∀ i, i < n → P i → f i = .int .i64 (F i : Int)

namespace Row
variable {w w' : World} {B n : Nat} {F : Nat → Nat} {P : Nat → Prop}

theorem start (w : World) (n : Nat) (F : Nat → Nat) {P : Nat → Prop} (hP : ∀ i, ¬ P i) : Row (w.alloc (.cells (madeCells #[.int .i64 0] n) 3)) w.heap.size n F P :=
  ⟨_, World.rowIs_made w (.int .i64 0) n 3, fun i _ hp => absurd hp (hP i)⟩
theorem below (h : Row w B n F P) (hb : Below w.heap.size w w') : Row w' B n F P := by
  obtain ⟨f, hr, hf⟩ := h
  exact ⟨f, hr.of_block (hb.block _ hr.lt), hf⟩
theorem cell (h : Row w B n F P) {i : Nat} (hi : i < n) (hp : P i) : w.cell? ⟨B, i, none⟩ = some (.int .i64 (F i : Int)) := by
  obtain ⟨f, hr, hf⟩ := h
  rw [hr.cell hi, hf i hi hp]
theorem any (h : Row w B n F P) {i : Nat} (hi : i < n) : ∃ v, w.cell? ⟨B, i, none⟩ = some v := by
  obtain ⟨f, hr, hf⟩ := h
  exact ⟨_, hr.cell hi⟩
theorem frozen (h : Row w B n F P) (i : Nat) : w.frozen? ⟨B, i, none⟩ = false := by
  obtain ⟨f, hr, hf⟩ := h
  exact hr.frozen i
theorem lt (h : Row w B n F P) : B < w.heap.size := by
  obtain ⟨f, hr, hf⟩ := h
  exact hr.lt
theorem set {P' : Nat → Prop} (h : Row w B n F P) (i : Nat) (hP : ∀ k, P' k → k ≠ i → P k) : Row (w.setCell ⟨B, i, none⟩ (.int .i64 (F i : Int))) B n F P' := by
  obtain ⟨f, hr, hf⟩ := h
  refine ⟨_, hr.set i _, fun k hk hp => ?_⟩
  by_cases e : k = i
  · subst e; rw [if_pos rfl]
  · rw [if_neg e]; exact hf k hk (hP k hp e)
theorem other (h : Row w B n F P) {B' : Nat} (hB : B ≠ B') (i : Nat) (v : Value) : Row (w.setCell ⟨B', i, none⟩ v) B n F P := by
  obtain ⟨f, hr, hf⟩ := h
  exact ⟨f, hr.setOther hB v, hf⟩
theorem imp {P' : Nat → Prop} (h : Row w B n F P) (hP : ∀ k, k < n → P' k → P k) : Row w B n F P' := by
  obtain ⟨f, hr, hf⟩ := h
  exact ⟨f, hr, fun i hi hp => hf i hi (hP i hi hp)⟩
/-- A new row, one place stored. -/
theorem first (w : World) (n i : Nat) (F : Nat → Nat) {P : Nat → Prop} (hP : ∀ k, k < n → P k → k = i) : Row (w.alloc (.cells ((madeCells #[.int .i64 0] n).setIfInBounds i (.int .i64 (F i : Int))) 3)) w.heap.size n F P := by
  have hs : ((madeCells #[Value.int .i64 0] n).setIfInBounds i (.int .i64 (F i : Int))).size = n := by rw [Array.size_setIfInBounds, size_madeCells]
  refine ⟨fun k => if k = i then .int .i64 (F i : Int) else .int .i64 0, ?_, fun k hk hp => ?_⟩
  · have := World.rowIs_alloc w ((madeCells #[Value.int .i64 0] n).setIfInBounds i (.int .i64 (F i : Int))) 3 (fun k => if k = i then .int .i64 (F i : Int) else .int .i64 0) (fun k hk => by
      have hk' : k < n := by omega
      by_cases e : k = i
      · subst e
        rw [if_pos rfl]
        simp [madeCells, hk']
      · rw [if_neg e]
        have e' : ¬ i = k := fun h => e h.symm
        simp [madeCells, hk', e', Nat.mod_one])
    rwa [hs] at this
  · obtain rfl := hP k hk hp
    exact if_pos rfl
end Row

set_option maxRecDepth 100000 in
set_option maxHeartbeats 2000000 in
theorem modelSeq_any (most : Nat) (hm : most ≤ 4611686018427387903) (d : Nat) : SeqLaw most d := by
  induction d with
  | zero => intro v T w lo h; exact h.elim
  | succ d ih =>
    rintro v T w lo ⟨ao, c, rfl, hnil, hN, hrow⟩
    have IH : Hid (SeqLaw most d) := ih
    clear ih hnil
    have hmk := mk_row (P := Try.prog) 22 3 (.int .i64 0) 8 Try.underlying22 Try.info3 rfl (T.N : Int) T.N rfl (by omega) (by omega)
    obtain ⟨A, HA⟩ : ∃ A : Nat → Nat, Hid (∀ i, A i = min most (Pn d T i)) := ⟨_, fun _ => rfl⟩
    obtain ⟨C, HC⟩ : ∃ C : Nat → Nat, Hid (∀ i, C i = min most (Cn d T i)) := ⟨_, fun _ => rfl⟩
    obtain ⟨U, HU⟩ : ∃ U : Nat → Nat, Hid (∀ i, U i = min most (patUp (Pn d T) i)) := ⟨_, fun _ => rfl⟩
    obtain ⟨S, HS⟩ : ∃ S : Nat → Nat, Hid (∀ i, S i = min most (sufUp (Pn d T) T.N (T.N - i))) := ⟨_, fun _ => rfl⟩
    have hA1 : ∀ i, A i ≤ most := fun i => by rw [HA.out]; omega
    have hC1 : ∀ i, C i ≤ most := fun i => by rw [HC.out]; omega
    have hU1 : ∀ i, U i ≤ most := fun i => by rw [HU.out]; omega
    have hS1 : ∀ i, S i ≤ most := fun i => by rw [HS.out]; omega
    have HU0 : Hid (min most 1 = U 0) := by unfold Hid; rw [HU.out]; rfl
    have HSN : Hid (min most 1 = S T.N) := by unfold Hid; rw [HS.out, Nat.sub_self]; rfl
    have HUs : Hid (∀ i, min most (U i * A i) = U (i + 1)) := fun i => by
      rw [HU.out (i + 1)]; exact cap_mul (by rw [HU.out, cap_idem]) (by rw [HA.out, cap_idem])
    have HSs : Hid (∀ i, i < T.N → min most (A i * S (i + 1)) = S i) := fun i hi => by
      have e : sufUp (Pn d T) T.N (T.N - i) = Pn d T i * sufUp (Pn d T) T.N (T.N - (i + 1)) := by
        have e1 : T.N - i = (T.N - (i + 1)) + 1 := by omega
        rw [e1, sufUp]
        have e2 : T.N - (T.N - (i + 1) + 1) = i := by omega
        rw [e2]
      rw [HS.out i, e]; exact cap_mul (by rw [HA.out, cap_idem]) (by rw [HS.out, cap_idem])
    have HBig : Hid (∀ i c, c = min most (clo (Pn d T) (Cn d T) T.N i) → min most (c + min most (C i * min most (U i * S (i + 1)))) = min most (clo (Pn d T) (Cn d T) T.N (i + 1))) := by
      rintro i c rfl
      refine cap_add (cap_idem _ _) ?_
      rw [cap_idem]
      refine cap_mul (by rw [HC.out, cap_idem]) ?_
      rw [cap_idem]
      exact cap_mul (by rw [HU.out, cap_idem]) (by rw [HS.out, cap_idem])
    have HE : Hid (∀ c, c = min most (clo (Pn d T) (Cn d T) T.N T.N) → U T.N = min most (cnt (d + 1) T).1 ∧ c = min most (cnt (d + 1) T).2) := by
      rintro c rfl
      rw [HU.out, cnt_succ, clo_all]
      exact ⟨rfl, rfl⟩
    clear HU HS
    go_enter Try.func34, Try.ntmps34
    go_wp2
    clear hmk
    go_loopg [9] T.N (fun k i w' => ∃ (j : Nat), j + k = T.N ∧ i = .int .i64 j ∧ Row w' w.heap.size T.N A (· < j) ∧ Row w' (w.heap.size + 1) T.N C (· < j) ∧ Below w.heap.size w w')
    case atStart => exact ⟨0, by omega, rfl, (Row.start w T.N A (fun i => by omega)).below ((Below.refl _ _).alloc (Nat.le_refl _) _), by have := Row.start (w.alloc (.cells (madeCells #[.int .i64 0] T.N) 3)) T.N C (P := (· < 0)) (fun i => by omega); rwa [World.size_alloc] at this, ((Below.refl _ _).alloc (Nat.le_refl _) _).alloc (by rw [World.size_alloc]; omega) _⟩
    case round =>
      obtain ⟨j, hj, rfl, hRA, hRC, hbel⟩ := hrel
      by_cases hlt : j < T.N
      · rcases hrow with h | ⟨b, o, rfl, hlo, hrow⟩
        · omega
        · obtain ⟨c0, c1, _, v', c2, hopt⟩ := hrow j hlt
          have hopt' := hopt.imp (Below.keeps (lo := lo) (Below.mono hbel (Nat.le_refl _))) (Nat.le_refl _) (fun _ _ h => h.below hbel)
          obtain ⟨oo, oc, rfl, _⟩ := hopt
          have d0 := cell_below hbel c0
          have d1 := cell_below hbel c1
          have d2 := cell_below hbel c2
          have hcall := modelTok_any most hm d IH.out T j (.slice oo (T.M j) oc) wr lo hopt'
          have HRA : Hid (Row wr w.heap.size T.N A (· < j)) := hRA
          have HRC : Hid (Row wr (w.heap.size + 1) T.N C (· < j)) := hRC
          clear hrow hopt' c0 c1 c2 hRA hRC
          go_upto_region 8 with (go_at_call 38; refine hcall.mono ?_; rintro e w4 ⟨pn, pc, rfl, hpn, hpc, hb4⟩)
          obtain rfl : pn = A j := by rw [hpn.out, HA.out]
          obtain rfl : pc = C j := by rw [hpc.out, HC.out]
          have hRA4 := HRA.out.below hb4
          have hRC4 := HRC.out.below hb4
          obtain ⟨y0, r0⟩ := hRA4.any hlt
          obtain ⟨y1, r1⟩ := hRC4.any hlt
          have f0 := hRA4.frozen j
          have f1 := hRC4.frozen j
          have HRA4 : Hid (Row w4 w.heap.size T.N A (· < j)) := hRA4
          have HRC4 : Hid (Row w4 (w.heap.size + 1) T.N C (· < j)) := hRC4
          clear hRA4 hRC4 hpn hpc hcall d0 d1 d2
          go_wp2
          go_roundg (gk - 1)
          case measure => omega
          case rel => exact ⟨j + 1, by omega, by go_num, (HRA4.out.set j (fun k h1 h2 => by omega)).other (by omega) _ _, (HRC4.out.other (by omega) _ _).set j (fun k h1 h2 => by omega), ((hbel.trans (hb4.mono hbel.size)).setCell (Nat.le_refl _) _).setCell (by show _ ≤ _ + 1; omega) _⟩
      · obtain rfl : T.N = j := by omega
        have hmk := mk_row (P := Try.prog) 22 3 (.int .i64 0) 8 Try.underlying22 Try.info3 rfl ((T.N : Int) + 1) (T.N + 1) (by omega) (by omega) (by omega)
        have hs1 : ∀ w, Calls Try.prog 21 #[.int .i64 1, .int .i64 most] w fun e w' => e = .returned (.int .i64 (U 0 : Int)) ∧ w = w' := fun w => by rw [← HU0.out]; exact satOf_any 1 most w
        rename World => w1
        have hm0 := World.rowIs_made w1 (.int .i64 0) (T.N + 1) 3
        have r0 := hm0.cell (i := 0) (by omega)
        have rf := hm0.frozen 0
        have HRA : Hid (Row w1 w.heap.size T.N A (· < T.N)) := hRA
        have HRC : Hid (Row w1 (w.heap.size + 1) T.N C (· < T.N)) := hRC
        clear hrow hm0 hRA hRC
        go_wp2_with (go_at_call 21; refine (hs1 _).mono ?_; rintro e w' ⟨rfl, rfl⟩)
        clear hmk hs1 r0 rf
        go_loopg [13] T.N (fun k i w' => ∃ (j : Nat), j + k = T.N ∧ i = .int .i64 j ∧ Row w' w1.heap.size (T.N + 1) U (· ≤ j) ∧ Below w1.heap.size w1 w')
        case atStart => exact ⟨0, by omega, rfl, Row.first w1 (T.N + 1) 0 U (fun k _ h => by omega), (Below.refl _ _).alloc (Nat.le_refl _) _⟩
        case round =>
          obtain ⟨j, hj, rfl, hRU, hb1⟩ := hrel
          by_cases hlt : j < T.N
          · have x1 := hRU.cell (i := j) (by omega) (Nat.le_refl _)
            obtain ⟨y, x2⟩ := hRU.any (i := j + 1) (by omega)
            have xf := hRU.frozen (j + 1)
            have x3 := cell_below hb1 (HRA.out.cell (i := j) hlt hlt)
            have HRU : Hid (Row wr w1.heap.size (T.N + 1) U (· ≤ j)) := hRU
            have hj1 : (0 : Int) ≤ (j : Int) + 1 := by omega
            have hj2 : (j : Int) + 1 < (T.N : Int) + 1 := by omega
            have hj3 : (j : Int) < (T.N : Int) + 1 := by omega
            have hw1 : IntKind.i64.wrap ((j : Int) + 1) = (j : Int) + 1 := IntWalk.i64_in _ (by omega)
            have hw2 : wrap64 ((j : Int) + 1) = (j : Int) + 1 := by rw [← IntWalk.i64_left]; exact hw1
            have hw3 : ((j : Int) + 1).toNat = j + 1 := by omega
            have hcall : Calls Try.prog 19 #[.int .i64 (U j : Int), .int .i64 (A j : Int), .int .i64 most] wr.drew fun e w' => e = .returned (.int .i64 (U (j + 1) : Int)) ∧ wr.drew = w' := by
              rw [← HUs.out j]; exact satMul_any (U j) (A j) most wr.drew (by have := hU1 j; omega) (by have := hA1 j; omega) hm
            clear hRU
            go_upto_region 15 with (fail)
            go_region_with (go_at_call 19; refine hcall.mono ?_; rintro e w' ⟨rfl, rfl⟩)
            all_goals
             go_wp2
             go_roundg (gk - 1)
             case measure => omega
             case rel => exact ⟨j + 1, by omega, by go_num, (HRU.out.set (j + 1) (fun k h1 h2 => by omega)).below (below_drewN (Below.refl _ _) 1), below_drewN (hb1.setCell (Nat.le_refl _) _) 1⟩
          · obtain rfl : T.N = j := by omega
            have hmk := mk_row (P := Try.prog) 22 3 (.int .i64 0) 8 Try.underlying22 Try.info3 rfl ((T.N : Int) + 1) (T.N + 1) (by omega) (by omega) (by omega)
            have hs1 : ∀ w, Calls Try.prog 21 #[.int .i64 1, .int .i64 most] w fun e w' => e = .returned (.int .i64 (S T.N : Int)) ∧ w = w' := fun w => by rw [← HSN.out]; exact satOf_any 1 most w
            rename World => w2
            have hm0 := World.rowIs_made w2 (.int .i64 0) (T.N + 1) 3
            have r0 := hm0.cell (i := T.N) (by omega)
            have rf := hm0.frozen T.N
            have HRU : Hid (Row w2 w1.heap.size (T.N + 1) U (· ≤ T.N)) := hRU
            have HRA2 : Hid (Row w2 w.heap.size T.N A (· < T.N)) := HRA.out.below hb1
            have HRC2 : Hid (Row w2 (w.heap.size + 1) T.N C (· < T.N)) := HRC.out.below hb1
            have HB2 : Hid (Below w.heap.size w w2) := hbel.trans (hb1.mono hbel.size)
            clear hm0 hRU HRA HRC hbel hb1
            go_wp2_with (go_at_call 21; refine (hs1 _).mono ?_; rintro e w' ⟨rfl, rfl⟩)
            clear hmk hs1 r0 rf
            go_loopg [15] T.N (fun k i w' => ∃ (j : Nat) (x : Int), j ≤ k ∧ k ≤ j ∧ j ≤ T.N ∧ i = .int .i64 x ∧ Hid (x + 1 = (j : Int)) ∧ Row w' w2.heap.size (T.N + 1) S (j ≤ ·) ∧ Below w2.heap.size w2 w')
            case atStart => exact ⟨T.N, (T.N : Int) - 1, Nat.le_refl _, Nat.le_refl _, Nat.le_refl _, by go_num, by unfold Hid; omega, Row.first w2 (T.N + 1) T.N S (fun k _ h => by omega), (Below.refl _ _).alloc (Nat.le_refl _) _⟩
            case round =>
              obtain ⟨j, x, hj1, hj2, hjN, rfl, Hx, hRS, hb2⟩ := hrel
              by_cases h0 : j = 0
              · obtain rfl : x = -1 := by have := Hx.out; omega
                obtain ⟨FM, HFM⟩ : ∃ F : Nat → Nat → Nat, Hid (∀ a b, F a b = min most (a * b)) := ⟨fun a b => min most (a * b), fun _ _ => rfl⟩
                obtain ⟨FA, HFA⟩ : ∃ F : Nat → Nat → Nat, Hid (∀ a b, F a b = min most (a + b)) := ⟨fun a b => min most (a + b), fun _ _ => rfl⟩
                have hFM : ∀ a b, FM a b ≤ most := fun a b => by rw [HFM.out]; omega
                have hFA : ∀ a b, FA a b ≤ most := fun a b => by rw [HFA.out]; omega
                rename World => w3
                have HRS : Hid (Row w3 w2.heap.size (T.N + 1) S (fun _ => True)) := hRS.imp (fun k _ _ => by omega)
                have HRA3 : Hid (Row w3 w.heap.size T.N A (· < T.N)) := HRA2.out.below hb2
                have HRC3 : Hid (Row w3 (w.heap.size + 1) T.N C (· < T.N)) := HRC2.out.below hb2
                have HRU3 : Hid (Row w3 w1.heap.size (T.N + 1) U (· ≤ T.N)) := HRU.out.below hb2
                have HB3 : Hid (Below w.heap.size w w3) := HB2.out.trans (hb2.mono HB2.out.size)
                clear hRS HRA2 HRC2 HRU HB2 hb2 Hx h0 hj1 hj2 hjN
                go_wp2
                go_loopg [16, 17] T.N (fun k x i w' => ∃ (j c : Nat), j + k = T.N ∧ i = .int .i64 j ∧ x = .int .i64 c ∧ c ≤ most ∧ Hid (c = min most (clo (Pn d T) (Cn d T) T.N j)) ∧ Below w3.heap.size w3 w')
                case atStart => exact ⟨0, 0, by omega, rfl, rfl, by omega, by unfold Hid; simp [clo], Below.refl _ _⟩
                case round =>
                  obtain ⟨j, ch, hj, rfl, rfl, hch, Hch, hb3⟩ := hrel
                  by_cases hlt : j < T.N
                  · have x1 := cell_below hb3 (HRC3.out.cell (i := j) hlt hlt)
                    have x2 := cell_below hb3 (HRU3.out.cell (i := j) (by omega) (by omega))
                    have x3 := cell_below hb3 (HRS.out.cell (i := j + 1) (by omega) trivial)
                    have g0 : (0 : Int) ≤ (j : Int) := by omega
                    have g1 : (0 : Int) ≤ (j : Int) + 1 := by omega
                    have g2 : (j : Int) + 1 < (T.N : Int) + 1 := by omega
                    have g3 : (j : Int) < (T.N : Int) + 1 := by omega
                    have g4 : (j : Int) < (T.N : Int) := by omega
                    have hw1 : IntKind.i64.wrap ((j : Int) + 1) = (j : Int) + 1 := IntWalk.i64_in _ (by omega)
                    have hw2 : wrap64 ((j : Int) + 1) = (j : Int) + 1 := by rw [← IntWalk.i64_left]; exact hw1
                    have hw3 : ((j : Int) + 1).toNat = j + 1 := by omega
                    have hMul : ∀ (a b N : Nat), a ≤ most → b ≤ most → Calls Try.prog 19 #[.int .i64 a, .int .i64 b, .int .i64 most] (wr.drewN N) fun e w' => e = .returned (.int .i64 (FM a b : Int)) ∧ w' = wr.drewN N := by
                      intro a b N ha hb
                      rw [HFM.out]
                      refine (satMul_any a b most (wr.drewN N) (by omega) (by omega) hm).mono ?_
                      rintro e w' ⟨rfl, rfl⟩
                      exact ⟨rfl, rfl⟩
                    have hAdd : ∀ (a b N : Nat), a ≤ most → b ≤ most → Calls Try.prog 20 #[.int .i64 a, .int .i64 b, .int .i64 most] (wr.drewN N) fun e w' => e = .returned (.int .i64 (FA a b : Int)) ∧ w' = wr.drewN N := by
                      intro a b N ha hb
                      rw [HFA.out]
                      refine (satAdd_any a b most (wr.drewN N) (by omega) (by omega)).mono ?_
                      rintro e w' ⟨rfl, rfl⟩
                      exact ⟨rfl, rfl⟩
                    have Hkey : Hid (FA ch (FM (C j) (FM (U j) (S (j + 1)))) = min most (clo (Pn d T) (Cn d T) T.N (j + 1))) := by
                      unfold Hid
                      rw [HFA.out, HFM.out, HFM.out]
                      exact HBig.out j ch Hch.out
                    go_upto_region 26 with (fail)
                    go_quiet (first | (go_at_call 19; exact Calls.quiet_of_same (hMul _ _ _ (by first | assumption | exact hC1 _ | exact hU1 _ | exact hS1 _ | exact hFM _ _) (by first | assumption | exact hS1 _ | exact hFM _ _))) | (go_at_call 20; exact Calls.quiet_of_same (hAdd _ _ _ (by first | assumption | exact hFM _ _) (by first | assumption | exact hFM _ _))))
                    go_wp2
                    go_roundg (gk - 1)
                    case measure => omega
                    case rel => exact ⟨j + 1, FA ch (FM (C j) (FM (U j) (S (j + 1)))), by omega, by go_num, rfl, hFA _ _, Hkey.out, below_drewN hb3 _⟩
                  · obtain rfl : T.N = j := by omega
                    have x2 := cell_below hb3 (HRU3.out.cell (i := T.N) (by omega) (by omega))
                    have g3 : (T.N : Int) < (T.N : Int) + 1 := by omega
                    go_wp2
                    refine bodyPost_ret (v := .tuple #[.int .i64 (U T.N : Int), .int .i64 ch]) ?_ rfl ⟨U T.N, ch, rfl, (HE.out ch Hch.out).1, (HE.out ch Hch.out).2, HB3.out.trans (hb3.mono HB3.out.size)⟩
                    simp [results, Try.results34, go_sem]
              · obtain ⟨q, rfl⟩ : ∃ q, j = q + 1 := ⟨j - 1, by omega⟩
                obtain rfl : x = (q : Int) := by have := Hx.out; omega
                clear Hx h0
                have hlt : q < T.N := by omega
                have x1 := hRS.cell (i := q + 1) (by omega) (Nat.le_refl _)
                obtain ⟨y, x2⟩ := hRS.any (i := q) (by omega)
                have xf := hRS.frozen q
                have x3 := cell_below hb2 (HRA2.out.cell (i := q) hlt hlt)
                have HRS : Hid (Row wr w2.heap.size (T.N + 1) S (q + 1 ≤ ·)) := hRS
                have g0 : (0 : Int) ≤ (q : Int) := by omega
                have g1 : (0 : Int) ≤ (q : Int) + 1 := by omega
                have g2 : (q : Int) + 1 < (T.N : Int) + 1 := by omega
                have g3 : (q : Int) < (T.N : Int) + 1 := by omega
                have hw1 : IntKind.i64.wrap ((q : Int) + 1) = (q : Int) + 1 := IntWalk.i64_in _ (by omega)
                have hw2 : wrap64 ((q : Int) + 1) = (q : Int) + 1 := by rw [← IntWalk.i64_left]; exact hw1
                have hw3 : ((q : Int) + 1).toNat = q + 1 := by omega
                have hcall : Calls Try.prog 19 #[.int .i64 (A q : Int), .int .i64 (S (q + 1) : Int), .int .i64 most] wr.drew fun e w' => e = .returned (.int .i64 (S q : Int)) ∧ wr.drew = w' := by
                  rw [← HSs.out q hlt]; exact satMul_any (A q) (S (q + 1)) most wr.drew (by have := hA1 q; omega) (by have := hS1 (q + 1); omega) hm
                clear hRS
                go_upto_region 21 with (fail)
                go_region_with (go_at_call 19; refine hcall.mono ?_; rintro e w' ⟨rfl, rfl⟩)
                all_goals
                 go_wp2
                 go_roundg (gk - 1)
                 case measure => omega
                 case rel => exact ⟨q, (q : Int) - 1, by omega, by omega, by omega, by go_num, by unfold Hid; omega, (HRS.out.set q (fun k h1 h2 => by omega)).below (below_drewN (Below.refl _ _) 1), below_drewN (hb2.setCell (Nat.le_refl _) _) 1⟩

end Go.Proofs.Qxb6602406a.Spell
