/-
  Seat b6602406a: the walk of chooseAnchors.
-/
import Derived.Test.Qxb6602406aAncCho
import Derived.BigQuiet
import Derived.Deep.DeepCutAuto
namespace Go.Proofs.Qxb6602406a
open Go.RowKit

set_option maxRecDepth 100000 in
set_option maxHeartbeats 2000000 in
theorem choose_any (pb n : Nat) (D : Desc) (TB : Nat → Nat) (an ln bf : Nat → Int) (w : World) (hP : Parts w pb n D TB an ln bf) (hC : cost D n ≤ 65536) :
    Calls Try.prog 35 #[.slice (some ⟨pb, 0, none⟩) n n] w fun e w' => e = .returned (.tuple #[]) ∧ ∃ an' ln' bf' : Nat → Int, Parts w' pb n D TB an' ln' bf' ∧ (∀ i, i < n → Cho' D n i (an' i) (ln' i) (bf' i) (ln i) (bf i)) ∧ Below pb w w' := by
  have hmm := @run_makeMap Try.prog
  have hpb : pb < w.heap.size := by obtain ⟨f, hr, _⟩ := hP.row; exact hr.lt
  have HC : Hid (∀ i, i < n → D.m i ≤ 4096 ∧ lensUp D i (D.m i) ≤ 65536 ∧ szUp (D.S i) (D.m i) ≤ 65536 ∧ n ≤ 1024) := fun i hi => cost_one D n i hC hi
  have hn : n ≤ 65536 := by
    by_cases h : 0 < n
    · have := (HC.out 0 h).2.2.2; omega
    · omega
  go_enter Try.func35, Try.ntmps35
  go_wp2
  clear hmm
  go_loopg [22] n (fun k i w' => ∃ (j c : Nat) (g : ByteArray → Option Nat) (cw ct : ByteArray → Nat), j + k = n ∧ i = .int .i64 j ∧ c ≤ 4096 * j ∧ Wt w' w.heap.size c D j 0 g cw ct (Seen D j 0) ∧ Below w.heap.size w w')
  case atStart => exact ⟨0, 0, _, _, _, by omega, rfl, by omega, Wt.start w D, (Below.refl _ _).alloc (Nat.le_refl _) _⟩
  case round =>
    obtain ⟨j, c, g, cw, ct, hj, rfl, hc, hW, hbel⟩ := hrel
    by_cases hlt : j < n
    · obtain ⟨p0, p1, p2, p3, p4⟩ := hP.at hlt
      have d0 := cell_below hbel p0
      obtain ⟨hm1, hm2, hm3, hm4⟩ := HC.out j hlt
      go_wp2
      go_loopg [33] (D.m j) (fun k i w' => ∃ (q c : Nat) (g : ByteArray → Option Nat) (cw ct : ByteArray → Nat), q + k = D.m j ∧ i = .int .i64 q ∧ c ≤ 4096 * j + q ∧ Wt w' w.heap.size c D j q g cw ct (Seen D j q) ∧ Below w.heap.size w w')
      case atStart => exact ⟨0, c, g, cw, ct, by omega, rfl, by omega, hW, hbel⟩
      case round =>
        clear hW hbel hc d0
        obtain ⟨q, c, g, cw, ct, hq, rfl, hc, hW, hbel⟩ := hrel
        have hsz := hbel.size
        by_cases hqm : q < D.m j
        · have t0 := cell_below hbel (hP.txt j hlt q hqm).1
          have t1 := cell_below hbel (hP.txt j hlt q hqm).2
          obtain ⟨x, Hx⟩ : ∃ x, Hid (x = D.S j q) := ⟨_, rfl⟩
          rw [← Hx.out] at t0
          have hxs : x.size ≤ 65536 := by rw [Hx.out]; have := lensUp_size D j (D.m j) q hqm; omega
          by_cases h0 : x.size = 0
          · have h0' : x.toList.isEmpty = true := by rw [empty_of]; simp [h0]
            have HW' : Hid (Wt (wr.alloc (.cells #[.string x, .pointer none] 79)) w.heap.size c D j (q + 1) g cw ct (Seen D j (q + 1))) := (hW.skip (by rw [← Hx.out]; exact h0)).below ((Below.refl wr.heap.size wr).alloc (Nat.le_refl _) _)
            clear h0
            go_wp2
            go_roundg (gk - 1)
            case measure => omega
            case rel => exact ⟨q + 1, c, g, cw, ct, by omega, by go_num, by omega, HW'.out, hbel.alloc hsz _⟩
          · have h0' : x.toList.isEmpty = false := by rw [empty_of]; simp [h0]
            have hlk : ∀ o, (Instr.lookup 85 (.map (some w.heap.size)) (.string x) false).run Try.prog (wr.alloc o) = .ok (.pointer (padr (g x))) (wr.alloc o) := fun o => by
              rw [← ptr_padr]; exact (hW.map.alloc o).look x (by unfold maxLen; omega)
            rename World => w1
            go_upto_if 45 with (fail)
            go_cut [7] (fun v w' => Met1 w w' D j q x w1.heap.size v)
            case first =>
              cases hg : g x with
              | some b =>
                simp only [hg, padr] at hlk ⊢
                go_wp2
                go_meet
                exact Met1.old hW hbel hg hc _ rfl
              | none =>
                simp only [hg, padr] at hlk ⊢
                go_wp2_with (first
                  | (go_at_call 39; refine (period_any x _ (by omega) (by omega)).mono ?_; rintro e w2 ⟨rfl, hb2⟩; have hcx : ∀ o, (w2.alloc o).cell? ⟨w1.heap.size, 0, none⟩ = some (.string x) := fun o => (World.cell?_alloc_lt _ _ _ (by have := hb2.size; simp at this; show w1.heap.size < w2.heap.size; omega)).trans ((hb2.cell (p := ⟨w1.heap.size, 0, none⟩) (by simp)).trans (World.cell?_alloc_new ..)))
                  | (at_mapUpdate; refine map_store (((hW.map.alloc _).below hb2).alloc _) (by unfold maxLen; omega) x (by unfold maxLen; omega) w2.heap.size rfl _ _ _ rfl rfl rfl rfl ?_; intro w3 hmap hgr))
                go_meet
                exact Met1.new hW hbel hg h0 hc _ _ rfl hb2 rfl hmap hgr
            case rest =>
              rename World => wk
              clear hW hbel hc hsz hlk t0 t1
              obtain ⟨b, c, g, cw, ct, rfl, hgx, hc, hW, hcx, hbel⟩ := hcut
              have hsz := hbel.size
              have e4 := cell_below hbel p4
              obtain ⟨hMb, hrow⟩ := hW.recs x b hgx
              have r0 : wk.cell? ⟨b, 0, none⟩ = some (.int .i64 (cw x : Int)) := hrow.cell (by omega)
              have r2 : wk.cell? ⟨b, 2, none⟩ = some (.int .i64 (ct x : Int)) := hrow.cell (by omega)
              have Hct : Hid ((has (D.S j) x q = true → ct x = j + 1) ∧ (has (D.S j) x q = false → ct x ≤ j)) := hW.ctv x (.inr rfl)
              cases hh : has (D.S j) x q with
              | true =>
                have HW' : Hid (Wt wk w.heap.size c D j (q + 1) g cw ct (Seen D j (q + 1))) := by
                  refine Wt.again (hW.congr (fun z => ⟨?_, fun h => .inl h⟩) (fun _ _ => rfl)) (by rw [← Hx.out]; exact h0) (by rw [← Hx.out]; exact hh)
                  rintro (h | rfl)
                  · exact h
                  · exact ⟨h0, .inr hh⟩
                rw [Hct.out.1 hh] at r2
                clear hW hh
                go_wp2
                go_roundg (gk - 1)
                case measure => omega
                case rel => exact ⟨q + 1, c, g, cw, ct, by omega, by go_num, by omega, HW'.out, hbel⟩
              | false =>
                have hle := Hct.out.2 hh
                obtain ⟨T, HT⟩ : ∃ T, Hid (T = ct x) := ⟨_, rfl⟩
                obtain ⟨U, HU⟩ : ∃ U, Hid (U = cw x) := ⟨_, rfl⟩
                have HUv : Hid (U = chkUp D x j) := by
                  have := hW.cwv x (.inr rfl)
                  rw [hh] at this
                  unfold Hid
                  rw [HU.out, this]; simp
                have hU1 : U ≤ 65536 := by
                  rw [HUv.out]
                  have := chk_le D x j
                  have := cost_mono D (show j ≤ n by omega)
                  omega
                rw [← HT.out] at r2 hle hrow
                rw [← HU.out] at r0 hrow
                have hne : ((T : Int) == (j : Int) + 1) = false := by simp; omega
                have hblt := hrow.lt
                have hfro := fun i => hrow.frozen i
                have Hrow : Hid (wk.rowIs b 89 3 (wrec U (perx x) T)) := hrow
                have HWc : Hid (Wt wk w.heap.size c D j q g cw ct (fun z => Seen D j q z ∨ z = x)) := hW
                have e0 := cell_below hbel p0
                have hxle : x.size ≤ szUp (D.S j) (D.m j) := by rw [Hx.out]; exact sz_ge (D.S j) (D.m j) q hqm
                obtain ⟨Z, HZ⟩ : ∃ Z, Hid (Z = szUp (D.S j) (D.m j)) := ⟨_, rfl⟩
                have hZ1 : Z ≤ 65536 := by rw [HZ.out]; exact hm3
                have hTx : TxtAt wk (TB j) (D.m j) (D.S j) := (hP.txt j hlt).below hbel
                rw [← HZ.out] at hxle
                have Hh : Hid (has (D.S j) x q = false) := hh
                clear hW hrow hh
                go_upto_if 66 with (fail)
                go_cut [7] (fun v w' => v = .pointer (some ⟨b, 0, none⟩) ∧ Met2 w wk w' b (U + if D.ex j = true then 0 else 1 + Z - x.size) (perx x) T)
                case first =>
                  cases hex : D.ex j with
                  | true =>
                    rw [hex] at e4
                    go_wp2
                    go_meet
                    exact ⟨rfl, by simp only [hex, if_true, Nat.add_zero]; exact Met2.same Hrow.out hbel⟩
                  | false =>
                    rw [hex] at e4
                    have hsize : Calls Try.prog 40 #[.slice (some ⟨TB j, 0, none⟩) (D.m j) (D.m j)] wk.drew fun e w2 => e = .returned (.int .i64 (Z : Int)) ∧ Below wk.heap.size wk w2 := by
                      refine (size_any (TB j) (D.m j) (D.S j) wk.drew hTx (by omega) (by omega)).mono ?_
                      rw [← HZ.out]
                      rintro e w2 ⟨rfl, hb2⟩
                      exact ⟨rfl, hb2.os, hb2.tape, hb2.output, hb2.size, hb2.block⟩
                    have hval : (Value.int .i64 (IntKind.i64.wrap (↑U + IntKind.i64.wrap (IntKind.i64.wrap (1 + ↑Z) - ↑x.size)))) = .int .i64 ((U + (1 + Z - x.size) : Nat) : Int) := val15 U Z x.size hU1 hZ1 hxle
                    go_upto_region 15 with (fail)
                    go_region_with (go_at_call 40; refine hsize.mono ?_; rintro e w2 ⟨rfl, h2⟩; have k0 := cell_below h2 r0; have kx := cell_below h2 hcx; have kf := fun i => (Hrow.out.of_block (h2.block b hblt)).frozen i)
                    all_goals
                     go_wp2_with (fail)
                     go_meet
                     have hput := Met2.put (U' := U + (1 + Z - x.size)) Hrow.out hbel hMb h2 0
                     rw [Int.natCast_add] at hput
                     exact ⟨rfl, by simp only [hex, Bool.false_eq_true, if_false]; exact hput⟩
                case rest =>
                  obtain ⟨rfl, hm⟩ := hcut
                  have HM : Hid (Met2 w wk (wc.setCell ⟨b, 2, none⟩ (.int .i64 ((j + 1 : Nat) : Int))) b (U + if D.ex j = true then 0 else 1 + Z - x.size) (perx x) (j + 1)) := hm.done hMb (j + 1)
                  have hfr := hm.1.frozen 2
                  have hcl : wc.cell? ⟨b, 2, none⟩ = some (.int .i64 (T : Int)) := hm.1.cell (by omega)
                  go_wp2
                  go_roundg (gk - 1)
                  case measure => omega
                  case rel =>
                    refine ⟨q + 1, c, g, _, _, by omega, by go_num, by omega, Wt.count HWc.out (fun z => by rw [← Hx.out]) (by rw [← Hx.out]; exact h0) (by rw [← Hx.out]; exact hgx) (by rw [← Hx.out]; exact Hh.out) rfl (by rw [← Hx.out, ← HU.out, ← HZ.out]; exact HM.out.1) HM.out.2.1, HM.out.2.2.1⟩
        · obtain rfl : q = D.m j := by omega
          go_wp2
          go_roundg (n - (j + 1))
          case measure => omega
          case rel => exact ⟨j + 1, c, g, cw, ct, by omega, by go_num, by omega, hW.next, hbel⟩
    · obtain rfl : n = j := by omega
      have hSt : St w wr pb n D TB c g cw ct an ln bf := ⟨hP.below hbel, hW, hbel.mono (Nat.le_of_lt hpb)⟩
      clear hW hbel hc
      go_wp2
      go_loopg [93] n (fun k i w' => ∃ (j : Nat) (an' ln' bf' : Nat → Int), j + k = n ∧ i = .int .i64 j ∧ St w w' pb n D TB c g cw ct an' ln' bf' ∧ (∀ i, i < j → Cho' D n i (an' i) (ln' i) (bf' i) (ln i) (bf i)) ∧ (∀ i, j ≤ i → ln' i = ln i ∧ bf' i = bf i))
      case atStart => exact ⟨0, an, ln, bf, by omega, rfl, hSt, fun i hi => absurd hi (by omega), fun i _ => ⟨rfl, rfl⟩⟩
      case round =>
        obtain ⟨j, an1, ln1, bf1, hj, rfl, hS, hdone, hleft⟩ := hrel
        by_cases hlt : j < n
        · obtain ⟨p0, p1, p2, p3, p4⟩ := hS.parts.at hlt
          have hfr := hS.parts.frozen (j * 5 + 1)
          obtain ⟨hm1, hm2, hm3, hm4⟩ := HC.out j hlt
          obtain ⟨q1, q2, q3, q4, q5⟩ := (hS.put1 hpb j (-1)).parts.at hlt
          have HS1 : Hid (St w (wr.setCell ⟨pb, j * 5 + 1, none⟩ (.int .i64 (-1))) pb n D TB c g cw ct (upd an1 j (-1)) ln1 bf1) := hS.put1 hpb j (-1)
          have HD : Hid (∀ i, i < j → Cho' D n i (an1 i) (ln1 i) (bf1 i) (ln i) (bf i)) := hdone
          have HL : Hid (∀ i, j ≤ i → ln1 i = ln i ∧ bf1 i = bf i) := hleft
          clear hS hdone hleft hSt
          go_wp2
          go_loopg [10, 11, 107] (D.m j) (fun k v bv i w' => ∃ (q B : Nat) (an' ln' bf' : Nat → Int), q + k = D.m j ∧ i = .int .i64 q ∧ bv = .int .i64 B ∧ Hid (B = szUp (D.S j) q) ∧ St w w' pb n D TB c g cw ct an' ln' bf' ∧ Cho D n j q g v (an' j) (ln' j) (bf' j) (ln j) (bf j) ∧ ∀ i, i ≠ j → an' i = an1 i ∧ ln' i = ln1 i ∧ bf' i = bf1 i)
          case atStart => exact ⟨0, 0, _, _, _, by omega, rfl, rfl, rfl, HS1.out, by rw [upd_same, (HL.out j (Nat.le_refl _)).1, (HL.out j (Nat.le_refl _)).2]; exact Cho.start, fun i hi => ⟨upd_other _ _ hi, rfl, rfl⟩⟩
          case round =>
            obtain ⟨q, B, an2, ln2, bf2, hq, rfl, rfl, HB, hS, hCh, hoth⟩ := hrel
            clear q1 q2 q3 q4 q5 p0 p1 p2 p3 p4 hfr
            by_cases hqm : q < D.m j
            · have t0 := (hS.parts.txt j hlt q hqm).1
              have t1 := (hS.parts.txt j hlt q hqm).2
              obtain ⟨x, Hx⟩ : ∃ x, Hid (x = D.S j q) := ⟨_, rfl⟩
              rw [← Hx.out] at t0
              have hxs : x.size ≤ 65536 := by rw [Hx.out]; have := lensUp_size D j (D.m j) q hqm; omega
              have HN : Hid (szUp (D.S j) (q + 1) = B + if x.size = 0 then 1 else x.size) := by unfold Hid; rw [HB.out, Hx.out]; rfl
              have hB1 : B ≤ 65536 := by rw [HB.out]; have := szUp_mono (D.S j) (show q ≤ D.m j by omega); omega
              have HO : Hid (∀ i, i ≠ j → an2 i = an1 i ∧ ln2 i = ln1 i ∧ bf2 i = bf1 i) := hoth
              have HS2 : Hid (St w wr pb n D TB c g cw ct an2 ln2 bf2) := hS
              have hal : ∀ o, Below wr.heap.size wr (wr.alloc o) := fun o => (Below.refl wr.heap.size wr).alloc (Nat.le_refl _) o
              by_cases h0 : x.size = 0
              · have h0' : x.toList.isEmpty = true := by rw [empty_of]; simp [h0]
                have HC2 := hCh.skip (by rw [← Hx.out]; exact h0)
                have HN' : Hid (szUp (D.S j) (q + 1) = B + 1) := by unfold Hid; rw [HN.out, if_pos h0]
                clear h0 hS hCh hoth
                go_wp2
                go_roundg (gk - 1)
                case measure => omega
                case rel => exact ⟨q + 1, B + 1, an2, ln2, bf2, by omega, by go_num, by go_num, HN'.out.symm, HS2.out.alloc _, HC2, HO.out⟩
              · have h0' : x.toList.isEmpty = false := by rw [empty_of]; simp [h0]
                have HN' : Hid (szUp (D.S j) (q + 1) = B + x.size) := by unfold Hid; rw [HN.out, if_neg h0]
                obtain ⟨b, hgx, hMb, r0, r1, hblt⟩ := hS.weigh hlt hqm (by rw [← Hx.out]; exact h0)
                rw [← Hx.out] at hgx r0 r1
                have hlk : ∀ o, (Instr.lookup 85 (.map (some w.heap.size)) (.string x) false).run Try.prog (wr.alloc o) = .ok (.pointer (some ⟨b, 0, none⟩)) (wr.alloc o) := fun o => by
                  have := (hS.wt.map.alloc o).look x (by unfold maxLen; omega)
                  rw [hgx] at this; exact this
                have hpf : ∀ o i, (wr.alloc o).frozen? ⟨pb, i, none⟩ = false := fun o i => (hS.alloc o).parts.frozen i
                have c1 : ∀ o, (wr.alloc o).cell? ⟨pb, j * 5 + 1, none⟩ = some (.int .i64 (an2 j)) := fun o => ((hS.alloc o).parts.at hlt).2.1
                have c2 : ∀ o, (wr.alloc o).cell? ⟨pb, j * 5 + 2, none⟩ = some (.int .i64 (ln2 j)) := fun o => ((hS.alloc o).parts.at hlt).2.2.1
                have c3 : ∀ o, (wr.alloc o).cell? ⟨pb, j * 5 + 3, none⟩ = some (.int .i64 (bf2 j)) := fun o => ((hS.alloc o).parts.at hlt).2.2.2.1
                have k0 : ∀ o, (wr.alloc o).cell? ⟨b, 0, none⟩ = some (.int .i64 (chkUp D x n : Int)) := fun o => cell_below (hal o) r0
                have k1 : ∀ o, (wr.alloc o).cell? ⟨b, 1, none⟩ = some (.int .i64 (perx x : Int)) := fun o => cell_below (hal o) r1
                have hplt := hS.lt
                clear r0 r1
                rcases hCh with ⟨rfl, hemp, hA, hL, hBB⟩ | ⟨a, b', haq, ha0, hga, rfl, hA, hL, hBB, hall⟩
                · clear hS hoth hA hL hBB
                  go_wp2
                  go_quiet (fail)
                  go_wp2
                  go_region
                  go_wp2
                  go_roundg (gk - 1)
                  case measure => omega
                  case rel =>
                    refine ⟨q + 1, B + x.size, _, _, _, by omega, by go_num, by go_num, HN'.out.symm, ((HS2.out.alloc _).drewN _).put hpb j (q : Int) (x.size : Int) (B : Int), ?_, fun i hi => by rw [upd_other _ _ hi, upd_other _ _ hi, upd_other _ _ hi]; exact HO.out i hi⟩
                    simp only [upd_same]
                    rw [Hx.out, HB.out]
                    exact Cho.first hemp (by rw [← Hx.out]; exact h0) (by rw [← Hx.out]; exact hgx)
                · obtain ⟨b2, hgx2, hMb2, s0, s1, hblt2⟩ := hS.weigh hlt (show a < D.m j by omega) ha0
                  obtain rfl : b2 = b' := by rw [hga] at hgx2; injection hgx2 with e; exact e.symm
                  obtain ⟨y, Hy⟩ : ∃ y, Hid (y = D.S j a) := ⟨_, rfl⟩
                  have Hd : Hid (an2 j = (a : Int) ∧ ln2 j = ((D.S j a).size : Int) ∧ bf2 j = (szUp (D.S j) a : Int)) := ⟨hA, hL, hBB⟩
                  have Hall : Hid (∀ k, k < q → (D.S j k).size ≠ 0 → k ≠ a → Better D n j a k) := hall
                  have Hga : Hid (g (D.S j a) = some b2) := hga
                  obtain ⟨cq, Hcq⟩ : ∃ z, Hid (z = chkUp D x n) := ⟨_, rfl⟩
                  obtain ⟨pq, Hpq⟩ : ∃ z, Hid (z = perx x) := ⟨_, rfl⟩
                  obtain ⟨cy, Hcy⟩ : ∃ z, Hid (z = chkUp D y n) := ⟨_, rfl⟩
                  obtain ⟨py, Hpy⟩ : ∃ z, Hid (z = perx y) := ⟨_, rfl⟩
                  rw [← Hcq.out] at k0
                  rw [← Hpq.out] at k1
                  rw [← Hy.out, ← Hcy.out] at s0
                  rw [← Hy.out, ← Hpy.out] at s1
                  have hys : y.size ≤ 65536 := by rw [Hy.out]; have := lensUp_size D j (D.m j) a (by omega); omega
                  rw [hL, ← Hy.out] at c2
                  have m0 : ∀ o, (wr.alloc o).cell? ⟨b2, 0, none⟩ = some (.int .i64 (cy : Int)) := fun o => cell_below (hal o) s0
                  have m1 : ∀ o, (wr.alloc o).cell? ⟨b2, 1, none⟩ = some (.int .i64 (py : Int)) := fun o => cell_below (hal o) s1
                  have hcl : ∀ z, chkUp D z n ≤ 65536 := fun z => by have := chk_le D z n; omega
                  obtain ⟨H1, HH1⟩ : ∃ z, Hid (z = cq * py) := ⟨_, rfl⟩
                  obtain ⟨H2, HH2⟩ : ∃ z, Hid (z = cy * pq) := ⟨_, rfl⟩
                  have hw1 : IntKind.i64.wrap ((cq : Int) * (py : Int)) = (H1 : Int) := by
                    rw [HH1.out]
                    refine mul64 cq py (by rw [Hcq.out]; exact hcl x) ?_
                    have := perx_le (x := y) (by rw [Hy.out]; exact ha0)
                    rw [Hpy.out]; omega
                  have hw2 : IntKind.i64.wrap ((cy : Int) * (pq : Int)) = (H2 : Int) := by
                    rw [HH2.out]
                    refine mul64 cy pq (by rw [Hcy.out]; exact hcl y) ?_
                    have := perx_le (x := x) h0
                    rw [Hpq.out]; omega
                  clear hS hoth hA hL hBB hall hga hgx2 s0 s1 hcl
                  by_cases hl : H1 < H2
                  · have d1 : decide (H1 < H2) = true := by simp [hl]
                    have d2 : ((H1 : Int) == (H2 : Int)) = false := by simp; omega
                    go_wp2
                    go_quiet (fail)
                    go_wp2
                    go_quiet (fail)
                    go_wp2
                    go_region
                    go_wp2
                    go_roundg (gk - 1)
                    case measure => omega
                    case rel =>
                      refine ⟨q + 1, B + x.size, _, _, _, by omega, by go_num, by go_num, HN'.out.symm, ((HS2.out.alloc _).drewN _).put hpb j (q : Int) (x.size : Int) (B : Int), ?_, fun i hi => by rw [upd_other _ _ hi, upd_other _ _ hi, upd_other _ _ hi]; exact HO.out i hi⟩
                      simp only [upd_same]
                      rw [Hx.out, HB.out]
                      exact Cho.take (by rw [← Hx.out]; exact h0) (by rw [← Hx.out]; exact hgx) ha0 Hall.out (by rw [← Hx.out, ← Hy.out, ← Hcq.out, ← Hpq.out, ← Hcy.out, ← Hpy.out, ← HH1.out, ← HH2.out]; exact .inl hl)
                  · have d1 : decide (H1 < H2) = false := by simp; omega
                    by_cases he : H1 = H2
                    · have d2 : ((H1 : Int) == (H2 : Int)) = true := by simp [he]
                      by_cases hy : y.size < x.size
                      · have d3 : decide (y.size < x.size) = true := by simp [hy]
                        go_wp2
                        go_quiet (fail)
                        go_wp2
                        go_quiet (fail)
                        go_wp2
                        go_region
                        go_wp2
                        go_roundg (gk - 1)
                        case measure => omega
                        case rel =>
                          refine ⟨q + 1, B + x.size, _, _, _, by omega, by go_num, by go_num, HN'.out.symm, ((HS2.out.alloc _).drewN _).put hpb j (q : Int) (x.size : Int) (B : Int), ?_, fun i hi => by rw [upd_other _ _ hi, upd_other _ _ hi, upd_other _ _ hi]; exact HO.out i hi⟩
                          simp only [upd_same]
                          rw [Hx.out, HB.out]
                          exact Cho.take (by rw [← Hx.out]; exact h0) (by rw [← Hx.out]; exact hgx) ha0 Hall.out (by rw [← Hx.out, ← Hy.out, ← Hcq.out, ← Hpq.out, ← Hcy.out, ← Hpy.out, ← HH1.out, ← HH2.out]; exact .inr ⟨he, hy⟩)
                      · have d3 : decide (y.size < x.size) = false := by simp; omega
                        go_wp2
                        go_quiet (fail)
                        go_wp2
                        go_quiet (fail)
                        go_wp2
                        go_roundg (gk - 1)
                        case measure => omega
                        case rel =>
                          refine ⟨q + 1, B + x.size, an2, ln2, bf2, by omega, by go_num, by go_num, HN'.out.symm, (HS2.out.alloc _).drewN _, ?_, HO.out⟩
                          rw [Hd.out.1, Hd.out.2.1, Hd.out.2.2]
                          exact Cho.keep haq Hga.out ha0 Hall.out (by rw [← Hx.out, ← Hy.out, ← Hcq.out, ← Hpq.out, ← Hcy.out, ← Hpy.out, ← HH1.out, ← HH2.out]; exact hl) (by rw [← Hx.out, ← Hy.out, ← Hcq.out, ← Hpq.out, ← Hcy.out, ← Hpy.out, ← HH1.out, ← HH2.out]; intro _; omega)
                    · have d2 : ((H1 : Int) == (H2 : Int)) = false := by simp; omega
                      go_wp2
                      go_quiet (fail)
                      go_wp2
                      go_quiet (fail)
                      go_wp2
                      go_roundg (gk - 1)
                      case measure => omega
                      case rel =>
                        refine ⟨q + 1, B + x.size, an2, ln2, bf2, by omega, by go_num, by go_num, HN'.out.symm, (HS2.out.alloc _).drewN _, ?_, HO.out⟩
                        rw [Hd.out.1, Hd.out.2.1, Hd.out.2.2]
                        exact Cho.keep haq Hga.out ha0 Hall.out (by rw [← Hx.out, ← Hy.out, ← Hcq.out, ← Hpq.out, ← Hcy.out, ← Hpy.out, ← HH1.out, ← HH2.out]; exact hl) (by rw [← Hx.out, ← Hy.out, ← Hcq.out, ← Hpq.out, ← Hcy.out, ← Hpy.out, ← HH1.out, ← HH2.out]; intro h; exact absurd h he)
            · obtain rfl : q = D.m j := by omega
              have HO : Hid (∀ i, i ≠ j → an2 i = an1 i ∧ ln2 i = ln1 i ∧ bf2 i = bf1 i) := hoth
              clear hoth
              go_wp2
              go_roundg (n - (j + 1))
              case measure => omega
              case rel =>
                refine ⟨j + 1, an2, ln2, bf2, by omega, by go_num, hS, fun i hi => ?_, fun i hi => ?_⟩
                · by_cases e : i = j
                  · subst e; exact hCh.out
                  · rw [(HO.out i e).1, (HO.out i e).2.1, (HO.out i e).2.2]; exact HD.out i (by omega)
                · rw [(HO.out i (by omega)).2.1, (HO.out i (by omega)).2.2]; exact HL.out i (by omega)
        · obtain rfl : n = j := by omega
          go_wp2
          refine bodyPost_end (v := .tuple #[]) (results_none rfl _ _ _) rfl ?_
          exact ⟨rfl, an1, ln1, bf1, hS.parts, hdone, hS.bel⟩

end Go.Proofs.Qxb6602406a
