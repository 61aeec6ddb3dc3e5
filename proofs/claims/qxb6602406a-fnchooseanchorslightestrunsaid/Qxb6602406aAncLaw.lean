/-
  Seat b6602406a: the walk of FnChooseAnchorsLightestRun.
-/
import Derived.Test.Qxb6602406aAncZ
namespace Go.Proofs.Qxb6602406a
open Go.RowKit

set_option maxRecDepth 100000 in
set_option maxHeartbeats 4000000 in
theorem law8 (ao : Option Addr) (n cap : Nat) (D : Desc) (w : World) (hT : Texts w ao n D) (hn : n ≤ 9223372036854775807) (hm : ∀ i, i < n → D.m i ≤ 9223372036854775807) (hs : ∀ i k, i < n → k < D.m i → (D.S i k).size ≤ 9223372036854775807) (hao : ao = none → cap = 0) :
    Calls Try.prog 8 #[.slice ao n cap] w fun e w' => e = .returned (.bool true) ∧ Below w.heap.size w w' := by
  go_enter Try.func8, Try.ntmps8
  go_upto_if 26 with (go_at_call 22; refine (guard22 ao n cap D w hT hn hm hs).mono ?_; rintro e w' ⟨b, rfl, hb, rfl⟩)
  cases b with
  | false =>
    go_wp2
    go_ret
    exact ⟨rfl, Below.refl _ _⟩
  | true =>
    have hL := hb rfl
    clear hb hm hs hn
    go_upto_if 29 with (go_at_call 23; refine (anchorBytes_any ao n cap D w hT hL).mono ?_; rintro e w' ⟨r, rfl, hr, rfl⟩)
    by_cases hr1 : r ≤ 65536
    · have hC : cost D n ≤ 65536 := by have := hr hr1; omega
      have HC : Hid (∀ i, i < n → D.m i ≤ 4096 ∧ lensUp D i (D.m i) ≤ 65536 ∧ szUp (D.S i) (D.m i) ≤ 65536 ∧ n ≤ 1024) := fun i hi => cost_one D n i hC hi
      have hn : n ≤ 65536 := by
        by_cases h : 0 < n
        · have := (HC.out 0 h).2.2.2; omega
        · omega
      have HL : Hid (Lens n D) := hL
      clear hr hL
      have hmk := mk_row (P := Try.prog) 22 3 (.int .i64 0) 8 Try.underlying22 Try.info3 rfl (n : Int) n rfl (by omega) (by omega)
      go_wp2_with (first
        | (go_at_call 24; refine (copyTexts_any ao n cap D w hT HL.out hao).mono ?_; rintro e w1 ⟨a1, c1, rfl, hT1, hb1, hcap⟩)
        | (go_at_call 25; refine (splitTexts_any a1 n c1 D w1 hT1 (by omega)).mono ?_; rintro e w2 ⟨rfl, hSp, hb2⟩)
        | (go_at_call 26; refine (zzchoose_any w1.heap.size n D w1 w2 hSp hb2 hC).mono ?_; rintro e w3 ⟨G, an, ln, bf, rfl, hO, hpick, hb3⟩))
      clear hmk
      have HB3 : Hid (Below w1.heap.size w1 w3) := hb2.trans (hb3.mono hb2.size)
      have HB0 : Hid (Below w.heap.size w w3) := hb1.trans (HB3.out.mono hb1.size)
      have hT3 := hT1.below HB3.out
      have hcap3 : Caps w3 a1 n D := fun b o e i hi => by
        obtain ⟨A, c, h1, h2⟩ := hcap b o e i hi
        exact ⟨A, c, cell_below HB3.out h1, h2⟩
      have HPk : Hid (∀ i, i < n → Cho' D n i (an i) (ln i) (bf i) (D.ln i) (D.bf i)) := hpick
      clear hT hT1 hcap hSp hb2 hb1 hb3 hpick
      go_loopg [12] n (fun k i w' => ∃ (j : Nat), j + k = n ∧ i = .int .i64 j ∧ w'.rowIs w3.heap.size 3 n (fun i => if i < j then .int .i64 (szUp (D.S i) (D.m i) : Int) else .int .i64 0) ∧ Below w3.heap.size w3 w')
      case atStart => exact ⟨0, by omega, rfl, (World.rowIs_made w3 (.int .i64 0) n 3).congr (fun t _ => by simp), (Below.refl _ _).alloc (Nat.le_refl _) _⟩
      case round =>
        obtain ⟨j, hj, rfl, hrow, hbel⟩ := hrel
        by_cases hlt : j < n
        · obtain ⟨b, o, rfl, htr⟩ := hT3.row (by omega)
          obtain ⟨A, c, d0, -, -, -, -, hA0, hP⟩ := htr j hlt
          obtain ⟨hm1, hm2, hm3, hm4⟩ := HC.out j hlt
          have e0 := cell_below hbel d0
          have hP' := hP.below hbel
          have hold := hrow.cell hlt
          rw [if_neg (Nat.lt_irrefl j)] at hold
          have hfro := hrow.frozen j
          have HE : Hid ((wr.setCell ⟨w3.heap.size, j, none⟩ (.int .i64 (szUp (D.S j) (D.m j) : Int))).rowIs w3.heap.size 3 n (fun i => if i < j + 1 then .int .i64 (szUp (D.S i) (D.m i) : Int) else .int .i64 0)) := (hrow.set j _).congr fun q _ => upto_set' (fun i => Value.int .i64 (szUp (D.S i) (D.m i) : Int)) (fun _ => .int .i64 0) j _ rfl q
          clear hrow htr hA0 hP d0
          go_wp2_with (go_at_call 27; refine (textBytes_any A (D.m j) c (D.S j) wr hP' (by omega) (by omega)).mono ?_; rintro e w' ⟨rfl, rfl⟩)
          go_roundg (gk - 1)
          case measure => omega
          case rel => exact ⟨j + 1, by omega, by go_num, HE.out, hbel.setCell (Nat.le_refl _) _⟩
        · obtain rfl : n = j := by omega
          rename World => w4
          have hsz : w4.rowIs w3.heap.size 3 n (fun i => .int .i64 (szUp (D.S i) (D.m i) : Int)) := hrow.congr fun t ht => by rw [if_pos ht]
          have hT4 := hT3.below hbel
          have hcap4 : Caps w4 a1 n D := fun b o e i hi => by
            obtain ⟨A, c, h1, h2⟩ := hcap3 b o e i hi
            exact ⟨A, c, cell_below hbel h1, h2⟩
          have hO4 : Out w4 G n an ln bf n := ⟨hO.an.of_block (hbel.block _ hO.an.lt), hO.ln.of_block (hbel.block _ hO.ln.lt), hO.bf.of_block (hbel.block _ hO.bf.lt)⟩
          have HB4 : Hid (Below w.heap.size w w4) := HB0.out.trans (hbel.mono HB0.out.size)
          clear hT3 hcap3 hO hrow hbel
          go_wp2
          go_loopg [13] n (fun k i w' => ∃ (j : Nat), j + k = n ∧ i = .int .i64 j ∧ Below w4.heap.size w4 w')
          case atStart => exact ⟨0, by omega, rfl, Below.refl _ _⟩
          case round =>
            obtain ⟨j, hj, rfl, hbel⟩ := hrel
            by_cases hlt : j < n
            · obtain ⟨b, o, rfl, htr⟩ := hT4.row (by omega)
              obtain ⟨A, c, d0, d1, d2, d3, d4, hA0, hP⟩ := htr j hlt
              obtain ⟨hm1, hm2, hm3, hm4⟩ := HC.out j hlt
              obtain ⟨A', c', d0', hc'⟩ := hcap4 b o rfl j hlt
              obtain ⟨hAA, hcc⟩ : A' = A ∧ c' = c := by rw [d0] at d0'; injection d0' with e; injection e with e1 e2 e3; exact ⟨e1.symm, e3.symm⟩
              rw [hcc] at hc'
              clear hAA hcc d0'
              have e0 := cell_below hbel d0
              have e3 := cell_below hbel d3
              have e4 := cell_below hbel d4
              have hP5 := hP.below hbel
              have o1 := cell_below hbel (hO4.an.cell hlt)
              have o2 := cell_below hbel (hO4.ln.cell hlt)
              have o3 := cell_below hbel (hO4.bf.cell hlt)
              rw [if_pos hlt] at o1 o2 o3
              have Hpk := HPk.out j hlt
              clear htr hP d0 d1 d2 d3 d4 hA0
              rename World => w5
              go_wp2
              go_loopg [15, 16] (D.m j) (fun k r i w' => ∃ (q R : Nat), q + k = D.m j ∧ i = .int .i64 q ∧ r = .int .i64 R ∧ R ≤ q ∧ Hid (R = 0 ↔ ∀ k, k < q → (D.S j k).size = 0) ∧ w5 = w')
              case atStart => exact ⟨0, 0, by omega, rfl, rfl, by omega, ⟨fun _ k hk => absurd hk (by omega), fun _ => rfl⟩, rfl⟩
              case round =>
                obtain ⟨q, R, hq, rfl, rfl, hRq, HR, rfl⟩ := hrel
                by_cases hqm : q < D.m j
                · obtain ⟨pb, po, rfl, hpc⟩ := hP5.row (by omega)
                  have cq := hpc q hqm
                  obtain ⟨x, Hx⟩ : ∃ x, Hid (x = D.S j q) := ⟨_, rfl⟩
                  rw [← Hx.out] at cq
                  clear hpc
                  by_cases h0 : x.size = 0
                  · have h0' : x.toList.isEmpty = true := by rw [empty_of]; simp [h0]
                    have HR' : Hid (R = 0 ↔ ∀ k, k < q + 1 → (D.S j k).size = 0) := by
                      refine ⟨fun h k hk => ?_, fun h => HR.out.2 fun k hk => h k (by omega)⟩
                      by_cases e : k = q
                      · rw [e, ← Hx.out]; exact h0
                      · exact HR.out.1 h k (by omega)
                    clear h0
                    go_wp2
                    go_roundg (gk - 1)
                    case measure => omega
                    case rel => exact ⟨q + 1, R, by omega, by go_num, rfl, by omega, HR'.out, rfl⟩
                  · have h0' : x.toList.isEmpty = false := by rw [empty_of]; simp [h0]
                    have HR' : Hid (R + 1 = 0 ↔ ∀ k, k < q + 1 → (D.S j k).size = 0) := by
                      refine ⟨fun h => absurd h (by omega), fun h => absurd (h q (by omega)) (by rw [← Hx.out]; exact h0)⟩
                    clear h0
                    go_wp2
                    go_roundg (gk - 1)
                    case measure => omega
                    case rel => exact ⟨q + 1, R + 1, by omega, by go_num, by go_num, by omega, HR'.out, rfl⟩
                · obtain rfl : q = D.m j := by omega
                  rcases Hpk with ⟨hemp, hA, hLn, hB⟩ | ⟨a, ham, ha0, hA, hLn, hB, hall⟩
                  · have hR0 : R = 0 := HR.out.2 hemp
                    subst hR0
                    rw [hA] at o1
                    rw [hLn] at o2
                    rw [hB] at o3
                    clear hA hLn hB hemp
                    go_wp2
                    go_quiet (fail)
                    go_wp2
                    go_roundg (n - (j + 1))
                    case measure => omega
                    case rel => exact ⟨j + 1, by omega, by go_num, below_drewN hbel _⟩
                  · have hR0 : R ≠ 0 := fun h => ha0 (HR.out.1 h a ham)
                    obtain ⟨pb, po, rfl, hpc⟩ := hP5.row (by omega)
                    have ca := hpc a ham
                    obtain ⟨y, Hy⟩ : ∃ y, Hid (y = D.S j a) := ⟨_, rfl⟩
                    rw [hA] at o1
                    rw [hLn, ← Hy.out] at o2
                    rw [hB] at o3
                    rw [← Hy.out] at ca ha0
                    have hys : y.size ≤ 65536 := by rw [Hy.out]; have := lensUp_size D j (D.m j) a ham; omega
                    have hy0 : y.toList.isEmpty = false := by rw [empty_of]; simp [ha0]
                    have g1 : decide (D.m j ≤ a) = false := by simp; omega
                    have ham' : (a : Int) < (D.m j : Int) := by omega
                    have hsa : szUp (D.S j) a ≤ 65536 := by have := szUp_mono (D.S j) (show a ≤ D.m j by omega); omega
                    have hPa : Pcs w5 (some ⟨pb, po, none⟩) a (D.S j) := .inr ⟨pb, po, rfl, fun k hk => hpc k (by omega)⟩
                    have HPc : Hid (∀ k, k < D.m j → w5.cell? ⟨pb, po + k, none⟩ = some (.string (D.S j k))) := hpc
                    have Hall : Hid (∀ k, k < D.m j → (D.S j k).size ≠ 0 → k ≠ a → Better D n j a k) := hall
                    have hac : a ≤ c := by omega
                    have hac' : (a : Int) ≤ (c : Int) := by omega
                    clear hA hLn hB hpc hP5 hall HR
                    go_wp2
                    have hcall : ∀ N, Calls Try.prog 27 #[.slice (some ⟨pb, po, none⟩) a c] (w5.drewN N) fun e w' => e = .returned (.int .i64 (szUp (D.S j) a : Int)) ∧ w' = w5.drewN N := fun N =>
                      (textBytes_any (some ⟨pb, po, none⟩) a c (D.S j) (w5.drewN N) (hPa.below (below_drewN (Below.refl _ _) N)) (by omega) (by omega)).mono fun e w' h => ⟨h.1, h.2.symm⟩
                    go_quiet ((go_at_call 27; exact Calls.quiet_of_same (hcall _)))
                    generalize hw6 : w5.drewN _ = w6
                    have hb6 : Below w5.heap.size w5 w6 := by rw [← hw6]; exact below_drewN (Below.refl _ _) _
                    have HB6 : Hid (Below w4.heap.size w4 w6) := hbel.trans (hb6.mono hbel.size)
                    have HP6 : Hid (∀ k, k < D.m j → w6.cell? ⟨pb, po + k, none⟩ = some (.string (D.S j k))) := fun k hk => cell_below hb6 (HPc.out k hk)
                    have hmk := mk_row (P := Try.prog) 22 3 (.int .i64 0) 8 Try.underlying22 Try.info3 rfl (D.m j : Int) (D.m j) rfl (by omega) (by omega)
                    have HT6 : Hid (Texts w6 (some ⟨b, o, none⟩) n D) := hT4.below HB6.out
                    have HZ6 : Hid (w6.rowIs w3.heap.size 3 n (fun i => .int .i64 (szUp (D.S i) (D.m i) : Int))) := hsz.of_block (HB6.out.block _ hsz.lt)
                    clear hw6 hb6 hcall hPa hbel o1 o2 o3 e0 e3 e4 ca hT4 hcap4 hO4 hsz HPc
                    go_wp2
                    clear hmk
                    go_loopg [20] (D.m j) (fun k i w' => ∃ (q : Nat) (f g : Nat → Value), q + k = D.m j ∧ i = .int .i64 q ∧ w'.rowIs w6.heap.size 3 (D.m j) f ∧ w'.rowIs (w6.heap.size + 1) 3 (D.m j) g ∧ Hid (∀ k, k < q → (D.S j k).size ≠ 0 → f k = .int .i64 (chkUp D (D.S j k) n : Int) ∧ g k = .int .i64 (perx (D.S j k) : Int)) ∧ Below w6.heap.size w6 w')
                    case atStart =>
                      refine ⟨0, fun _ => .int .i64 0, fun _ => .int .i64 0, by omega, rfl, (World.rowIs_made w6 (.int .i64 0) (D.m j) 3).alloc _, ?_, fun k hk => absurd hk (by omega), ((Below.refl _ _).alloc (Nat.le_refl _) _).alloc (by simp) _⟩
                      have := World.rowIs_made (w6.alloc (.cells (madeCells #[Value.int .i64 0] (D.m j)) 3)) (.int .i64 0) (D.m j) 3
                      simp only [World.size_alloc] at this
                      exact this
                    case round =>
                      obtain ⟨q, f, g, hq, rfl, hf, hg, HF, hb7⟩ := hrel
                      by_cases hqm : q < D.m j
                      · have cq := cell_below hb7 (HP6.out q hqm)
                        have hpb6 : pb < w6.heap.size := World.block_lt_of_cell? w6 _ (HP6.out q hqm)
                        have hpne : pb ≠ w6.heap.size := by omega
                        obtain ⟨x, Hx⟩ : ∃ x, Hid (x = D.S j q) := ⟨_, rfl⟩
                        rw [← Hx.out] at cq
                        have hxs : x.size ≤ 65536 := by rw [Hx.out]; have := lensUp_size D j (D.m j) q hqm; omega
                        by_cases h0 : x.size = 0
                        · have h0' : x.toList.isEmpty = true := by rw [empty_of]; simp [h0]
                          have HF' : Hid (∀ k, k < q + 1 → (D.S j k).size ≠ 0 → f k = .int .i64 (chkUp D (D.S j k) n : Int) ∧ g k = .int .i64 (perx (D.S j k) : Int)) := by
                            intro k hk hk0
                            by_cases e : k = q
                            · rw [e, ← Hx.out] at hk0; exact absurd h0 hk0
                            · exact HF.out k (by omega) hk0
                          clear h0
                          go_wp2
                          go_roundg (gk - 1)
                          case measure => omega
                          case rel => exact ⟨q + 1, f, g, by omega, by go_num, hf, hg, HF'.out, hb7⟩
                        · have h0' : x.toList.isEmpty = false := by rw [empty_of]; simp [h0]
                          have r0 := hf.cell hqm
                          have r1 := hg.cell hqm
                          have f0 := hf.frozen q
                          have f1 := hg.frozen q
                          have hck := checksOf_any (some ⟨b, o, none⟩) n c1 w3.heap.size D x wr (HT6.out.below hb7) hC (HZ6.out.of_block (hb7.block _ HZ6.out.lt)) hxs (by omega)
                          have Hf : Hid (wr.rowIs w6.heap.size 3 (D.m j) f) := hf
                          have Hg : Hid (wr.rowIs (w6.heap.size + 1) 3 (D.m j) g) := hg
                          clear hf hg
                          go_wp2_with (first
                            | (go_at_call 28; refine hck.mono ?_; rintro e w' ⟨rfl, rfl⟩)
                            | (go_at_call 29; refine (naive_any x _ (by omega) (by omega)).mono ?_; rintro e w' ⟨rfl, kk, rfl⟩))
                          go_roundg (gk - 1)
                          case measure => omega
                          case rel =>
                            refine ⟨q + 1, _, _, by omega, by go_num, ((Hf.out.set q _).of_block rfl).setOther (by show w6.heap.size ≠ w6.heap.size + 1; omega) _, ((Hg.out.setOther (by show w6.heap.size + 1 ≠ w6.heap.size; omega) _).of_block rfl).set q _, fun k hk hk0 => ?_, (below_drewN (hb7.setCell (Nat.le_refl _) _) kk).setCell (by show w6.heap.size ≤ w6.heap.size + 1; omega) _⟩
                            by_cases e : k = q
                            · subst e
                              rw [if_pos rfl, if_pos rfl, ← Hx.out]
                              exact ⟨rfl, rfl⟩
                            · rw [if_neg e, if_neg e]
                              exact HF.out k (by omega) hk0
                      · obtain rfl : q = D.m j := by omega
                        rename World => w7
                        have HB7 : Hid (Below w4.heap.size w4 w7) := HB6.out.trans (hb7.mono HB6.out.size)
                        have HP7 : Hid (∀ k, k < D.m j → w7.cell? ⟨pb, po + k, none⟩ = some (.string (D.S j k))) := fun k hk => cell_below hb7 (HP6.out k hk)
                        have ca : w7.cell? ⟨w6.heap.size, a, none⟩ = some (.int .i64 (chkUp D y n : Int)) := by
                          rw [hf.cell ham, (HF.out a ham (by rw [← Hy.out]; exact ha0)).1, ← Hy.out]
                        have pa : w7.cell? ⟨w6.heap.size + 1, a, none⟩ = some (.int .i64 (perx y : Int)) := by
                          rw [hg.cell ham, (HF.out a ham (by rw [← Hy.out]; exact ha0)).2, ← Hy.out]
                        have ya : w7.cell? ⟨pb, po + a, none⟩ = some (.string y) := by rw [HP7.out a ham, Hy.out]
                        have HQ : Hid (∀ k, k < D.m j → (D.S j k).size ≠ 0 → w7.cell? ⟨w6.heap.size, k, none⟩ = some (.int .i64 (chkUp D (D.S j k) n : Int)) ∧ w7.cell? ⟨w6.heap.size + 1, k, none⟩ = some (.int .i64 (perx (D.S j k) : Int))) := fun k hk hk0 => by
                          rw [hf.cell hk, hg.cell hk, (HF.out k hk hk0).1, (HF.out k hk hk0).2]
                          exact ⟨rfl, rfl⟩
                        have hcl : ∀ z, chkUp D z n ≤ 65536 := fun z => by have := chk_le D z n; omega
                        obtain ⟨cy, Hcy⟩ : ∃ z, Hid (z = chkUp D y n) := ⟨_, rfl⟩
                        obtain ⟨py, Hpy⟩ : ∃ z, Hid (z = perx y) := ⟨_, rfl⟩
                        rw [← Hcy.out] at ca
                        rw [← Hpy.out] at pa
                        have hcy : cy ≤ 65536 := by rw [Hcy.out]; exact hcl y
                        have hpy : py ≤ 65536 := by rw [Hpy.out]; have := perx_le ha0; omega
                        have HCL : Hid (∀ z, chkUp D z n ≤ 65536) := hcl
                        clear hb7 hf hg HF hcl HP6 HT6 HZ6
                        go_wp2
                        go_loopg [21] (D.m j) (fun k i w' => ∃ (q : Nat), q + k = D.m j ∧ i = .int .i64 q ∧ Below w7.heap.size w7 w')
                        case atStart => exact ⟨0, by omega, rfl, Below.refl _ _⟩
                        case round =>
                          obtain ⟨q, hq, rfl, hb8⟩ := hrel
                          by_cases hqm : q < D.m j
                          · have hqm' : (q : Int) < (D.m j : Int) := by omega
                            obtain ⟨x, Hx⟩ : ∃ x, Hid (x = D.S j q) := ⟨_, rfl⟩
                            have xq := cell_below hb8 (HP7.out q hqm)
                            rw [← Hx.out] at xq
                            have hxs : x.size ≤ 65536 := by rw [Hx.out]; have := lensUp_size D j (D.m j) q hqm; omega
                            by_cases hqa : q = a
                            · have g2 : ((q : Int) == (a : Int)) = true := by simp [hqa]
                              clear hqa
                              go_wp2
                              go_roundg (gk - 1)
                              case measure => omega
                              case rel => exact ⟨q + 1, by omega, by go_num, hb8⟩
                            · have g2 : ((q : Int) == (a : Int)) = false := by simp; omega
                              by_cases h0 : x.size = 0
                              · have h0' : x.toList.isEmpty = true := by rw [empty_of]; simp [h0]
                                clear h0
                                go_wp2
                                go_roundg (gk - 1)
                                case measure => omega
                                case rel => exact ⟨q + 1, by omega, by go_num, hb8⟩
                              · have h0' : x.toList.isEmpty = false := by rw [empty_of]; simp [h0]
                                obtain ⟨q0, q1⟩ := HQ.out q hqm (by rw [← Hx.out]; exact h0)
                                have cx := cell_below hb8 q0
                                have px := cell_below hb8 q1
                                rw [← Hx.out] at cx px
                                have ca' := cell_below hb8 ca
                                have pa' := cell_below hb8 pa
                                have ya' := cell_below hb8 ya
                                have hbt := Hall.out q hqm (by rw [← Hx.out]; exact h0) hqa
                                unfold Better at hbt
                                rw [← Hx.out, ← Hy.out] at hbt
                                obtain ⟨cX, HcX⟩ : ∃ z, Hid (z = chkUp D x n) := ⟨_, rfl⟩
                                obtain ⟨pX, HpX⟩ : ∃ z, Hid (z = perx x) := ⟨_, rfl⟩
                                rw [← HcX.out] at cx
                                rw [← HpX.out] at px
                                rw [← HcX.out, ← HpX.out, ← Hcy.out, ← Hpy.out] at hbt
                                have hcx : cX ≤ 65536 := by rw [HcX.out]; exact HCL.out x
                                have hpx : pX ≤ 65536 := by rw [HpX.out]; have := perx_le h0; omega
                                obtain ⟨H1, HH1⟩ : ∃ z, Hid (z = cy * pX) := ⟨_, rfl⟩
                                obtain ⟨H2, HH2⟩ : ∃ z, Hid (z = cX * py) := ⟨_, rfl⟩
                                have hw1 : IntKind.i64.wrap ((cy : Int) * (pX : Int)) = (H1 : Int) := by rw [HH1.out]; exact mul64 cy pX hcy hpx
                                have hw2 : IntKind.i64.wrap ((cX : Int) * (py : Int)) = (H2 : Int) := by rw [HH2.out]; exact mul64 cX py hcx hpy
                                rw [← HH1.out, ← HH2.out] at hbt
                                clear q0 q1 hcx hpx
                                rcases hbt with hbt | ⟨hbt, hlen⟩
                                · have g3 : decide (H2 < H1) = false := by simp; omega
                                  have g4 : ((H1 : Int) == (H2 : Int)) = false := by simp; omega
                                  go_wp2
                                  go_quiet (fail)
                                  go_wp2
                                  go_quiet (fail)
                                  go_wp2
                                  go_roundg (gk - 1)
                                  case measure => omega
                                  case rel => exact ⟨q + 1, by omega, by go_num, below_drewN hb8 _⟩
                                · have g3 : decide (H2 < H1) = false := by simp; omega
                                  have g4 : ((H1 : Int) == (H2 : Int)) = true := by simp [hbt]
                                  have g5 : decide (y.size < x.size) = false := by simp; omega
                                  clear hbt
                                  by_cases hxy : x.size = y.size
                                  · have g6 : ((x.size : Int) == (y.size : Int)) = true := by simp [hxy]
                                    have g7 : decide (q < a) = false := by simp; omega
                                    clear hxy hlen
                                    go_wp2
                                    go_quiet (fail)
                                    go_wp2
                                    go_quiet (fail)
                                    go_wp2
                                    go_quiet (fail)
                                    go_wp2
                                    go_quiet (fail)
                                    go_wp2
                                    go_roundg (gk - 1)
                                    case measure => omega
                                    case rel => exact ⟨q + 1, by omega, by go_num, below_drewN hb8 _⟩
                                  · have g6 : ((x.size : Int) == (y.size : Int)) = false := by simp; omega
                                    clear hxy hlen
                                    go_wp2
                                    go_quiet (fail)
                                    go_wp2
                                    go_quiet (fail)
                                    go_wp2
                                    go_quiet (fail)
                                    go_wp2
                                    go_quiet (fail)
                                    go_wp2
                                    go_roundg (gk - 1)
                                    case measure => omega
                                    case rel => exact ⟨q + 1, by omega, by go_num, below_drewN hb8 _⟩
                          · obtain rfl : q = D.m j := by omega
                            go_wp2
                            go_roundg (n - (j + 1))
                            case measure => omega
                            case rel => exact ⟨j + 1, by omega, by go_num, HB7.out.trans (hb8.mono HB7.out.size)⟩
            · obtain rfl : n = j := by omega
              go_wp2
              go_ret
              exact ⟨rfl, HB4.out.trans (hbel.mono HB4.out.size)⟩
    · go_wp2
      go_ret
      exact ⟨rfl, Below.refl _ _⟩

end Go.Proofs.Qxb6602406a
