/-
  Seat b6602406a: the walk of NewSequence.
-/
import Derived.Test.Qxb6602406aSmall
import Derived.Test.Qxb6602406aSeqMem
import Derived.Deep.DeepCutAuto
import Derived.Deep.RegionLaw
namespace Go.Proofs.Qxb6602406a
open Go.RowKit

set_option maxRecDepth 100000 in
set_option maxHeartbeats 2000000 in
theorem newseq (b n : Nat) (z : Nat → Int) (w : World) (h0 : 0 < n) (hn : n ≤ 65536) (hz : ∀ t, t < n → z t ≤ 65536) (hb : b < w.heap.size) (hc : ∀ t, t < n → w.cell? ⟨b, t, none⟩ = some (.int .i64 (z t))) :
    Calls Try.prog 31 #[.slice (some ⟨b, 0, none⟩) n n] w fun e w' => e = .returned (.pointer (some ⟨w.heap.size, 0, none⟩)) ∧ ∃ P Q vd, L3 w w' n ((n - 1) / 64 + 1) z P Q vd n := by
  have hmk := mk_row (P := Try.prog) 25 26 (.int .u64 0) 8 Try.underlying25 Try.info26 rfl (((n : Int) - 1) / 64 + 1) ((n-1)/64+1) (by omega) (by omega) (by omega)
  obtain ⟨i3, hi, hz0, hz1, hz2⟩ := info_parts Try.info3
  obtain ⟨i26, ji, jz0, jz1, jz2⟩ := info_parts Try.info26
  go_enter Try.func31, Try.ntmps31
  go_wp2
  clear hmk
  go_loopg [5, 36] n (fun k v i wr => ∃ j : Nat, j + k = n ∧ i = .int .i64 j ∧ L1 w wr n z j v)
  case atStart => exact ⟨0, by omega, rfl, L1.start w n z h0⟩
  case round =>
    obtain ⟨j, hj, rfl, hL⟩ := hrel
    by_cases hlt : j < n
    · have hcell := (hL.bel.cell (p := ⟨b, j, none⟩) hb).trans (hc j hlt)
      have htop := top_le z n j 65536 (by omega) hz
      by_cases hneg : z j < 0
      · obtain ⟨ao, cp, rfl⟩ := hL.cnts.shape
        go_wp2
        go_roundg (gk - 1)
        case measure => omega
        case rel => exact ⟨j + 1, by omega, by go_num, hL.same hneg⟩
      · obtain ⟨c, hcj⟩ : ∃ c : Nat, z j = c := ⟨(z j).toNat, by omega⟩
        have hz' := hz j hlt
        by_cases hlow : c < top z j
        · obtain ⟨g, cap, rfl, hg1, hg2⟩ := hL.cnts.some (by omega)
          have hold := hL.cnts.cell hlow
          have hfro := hL.cnts.frozen c
          have hcl := cnt_le z j c
          go_wp2
          go_roundg (gk - 1)
          case measure => omega
          case rel => exact ⟨j + 1, by omega, by go_num, hL.hit hcj hlow hg1⟩
        · obtain ⟨ao, cp, rfl⟩ := hL.cnts.shape
          have hsz := hL.ev.lt
          have hcl := cnt_le z j c
          go_wp2_with (at_builtin; refine wpList_append_zeros _ rfl (.tmp 44) (.tmp 49) 22 3 rfl (w.heap.size + 2) 3 i3 (.int .i64 0) 8 Try.underlying22 Try.underlying3 hi hz0 hz1 hz2 rfl rfl _ (top z j) _ rfl hL.cnts _ (c + 1 - top z j) rfl ?b1 ?b2 ?b3 ?b4 ?b5 ?_)
          case b1 => omega
          case b2 => omega
          case b3 => unfold maxLen; omega
          case b4 => omega
          case b5 => omega
          intro g cap w1 hown hgr
          have hG := hL.grow (c := c) (c + 1 - top z j) (by omega) hown hgr
          have hg1 : w.heap.size + 2 ≤ g := by
            rcases hown.2 with ⟨h, _⟩ | ⟨g', cap', cur, h, hb', _⟩
            · simp at h
            · simp at h; obtain ⟨rfl, _⟩ := h; exact hb'
          have hlen : top z j + (c + 1 - top z j) = c + 1 := by omega
          rw [hlen]
          have hold := hG.1.cell (j := c) (by omega)
          have hfro := hG.1.frozen c
          clear hown hgr hlen
          go_wp2
          go_roundg (gk - 1)
          case measure => omega
          case rel => exact ⟨j + 1, by omega, by go_num, L1.grown hcj (by omega) hg1 hG⟩
    · obtain rfl : n = j := by omega
      obtain ⟨ao, cp, rfl⟩ := hL.cnts.shape
      have hK := top_le z n n 65536 (by omega) hz
      have hmk := mk_rows (P := Try.prog) 61 65 (.agg #[.bool false, .int .i64 0, .int .i64 0]) 3 24 Try.underlying61 Try.info65 (top z n : Int) (top z n) rfl (by omega) (by omega)
      have hs4 : wr.cell? ⟨w.heap.size, 4, none⟩ = some (.slice none 0 0) := hL.st.cell (i := 4) (by omega)
      have hf4 := hL.st.frozen 4
      have hsz := hL.ev.lt
      have hsz0 : w.heap.size < wr.heap.size := by omega
      go_wp2
      obtain ⟨W, HW⟩ : ∃ W, Hid (W = (n - 1) / 64 + 1) := ⟨_, rfl⟩
      have hW1 : 1 ≤ W := by have := HW.out; omega
      have hW2 : W ≤ 65536 := by have := HW.out; omega
      rename World => w1
      generalize hP : w1.heap.size = P at *
      go_loopg [8, 68] (top z n) (fun k v i w' => ∃ (j : Nat) (vd : Value), j + k = top z n ∧ i = .int .i64 j ∧ v = .int .i64 (sp z n W j) ∧ L2 w w' n W z P (.slice ao (top z n) cp) vd j j)
      case atStart => exact ⟨0, _, by omega, rfl, rfl, hP ▸ L2.start HW.out hL _ (size_madeCells _ _)⟩
      case round =>
        clear hmk hs4 hf4 hsz hsz0
        obtain ⟨j, vd, hj, rfl, rfl, hL2⟩ := hrel
        by_cases hlt : j < top z n
        · obtain ⟨g, cap, heq, hg1, hg2⟩ := hL2.cnts.some (by omega)
          injection heq with e1 e2 e3
          subst e1; subst e3
          have hcell := hL2.cnts.cell hlt
          have c0 : wr.cell? ⟨w.heap.size, 0, none⟩ = some (.int .i64 (W : Int)) := hL2.st.cell (i := 0) (by omega)
          have c4 : wr.cell? ⟨w.heap.size, 4, none⟩ = some (.slice (some ⟨P, 0, none⟩) (top z n) (top z n)) := hL2.st.cell (i := 4) (by omega)
          have c5 : wr.cell? ⟨w.heap.size, 5, none⟩ = some vd := hL2.st.cell (i := 5) (by omega)
          have hcl := cnt_le z n j
          have hsp := du_sp_le z n W j
          have hlo := hL2.lo
          obtain ⟨f, hpos, hf⟩ := hL2.pos
          have p0 := hpos.cell (i := j * 3) (by omega)
          have p1 := hpos.cell (i := j * 3 + 1) (by omega)
          have p2 := hpos.cell (i := j * 3 + 2) (by omega)
          have pf := fun i => hpos.frozen i
          obtain ⟨ad, cd, rfl⟩ := hL2.dn.shape
          by_cases hd : W ≤ cnt z n j
          · have hde : den z n W j = true := by simpa [den] using hd
            have hput := hL2.put (.bool true) (.int .i64 (↑(du z n W j) * ↑W)) (.int .i64 (↑(du z n W j) * ↑W + ↑W)) (by rw [hde]) (by simp [frm, hde]) (by simp [til, hde])
            have HD : Hid (den z n W j = true) := hde
            clear hde
            go_wp2
            go_region
            go_wp2
            have hg2 := hput.drew.drew
            have b3 : du z n W j * W + W ≤ maxLen := by unfold maxLen; omega
            have b4 : (du z n W j * W + W) * 8 ≤ 140737488355328 := by omega
            have b5 := hg2.hi
            go_region_law (refine step_append_zeros rfl (.tmp 105) (.tmp 109) 25 3 rfl (P + 1) 26 i26 (.int .u64 0) 8 Try.underlying25 Try.underlying3 ji jz0 jz1 jz2 rfl rfl (.slice ad (du z n W j * W) cd) (du z n W j * W) _ rfl hg2.dn _ W rfl rfl hW1 b3 b4 b5 ?_; intro gd cd' w2 hown hgr; obtain ⟨hL3, s5, f5⟩ := hg2.grow HD.out hown hgr)
            all_goals
              go_wp2
              go_roundg (gk - 1)
              case measure => omega
              case rel => exact ⟨j + 1, _, by omega, by go_num, by rw [sp_same z n W j HD.out], hL3⟩
          · have hde : den z n W j = false := by simpa [den] using hd
            have hput := (hL2.put (.bool false) (.int .i64 ↑(sp z n W j)) (.int .i64 ↑(sp z n W j)) (by rw [hde]) (by simp [frm, hde]) (by simp [til, hde, cnt])).skip hde
            have hsp' := sp_succ z n W j hde
            have HS : Hid (sp z n W (j + 1) = sp z n W j + cnt z n j) := hsp'
            clear hsp' hde
            go_wp2
            go_roundg (gk - 1)
            case measure => omega
            case rel => exact ⟨j + 1, _, by omega, by go_num, by rw [HS.out]; go_num, hput⟩
        · obtain rfl : top z n = j := by omega
          have hsp := du_sp_le z n W (top z n)
          have hmk := mk_row (P := Try.prog) 22 3 (.int .i64 0) 8 Try.underlying22 Try.info3 rfl (sp z n W (top z n) : Int) (sp z n W (top z n)) rfl (by omega) (by omega)
          have hs6 : wr.cell? ⟨w.heap.size, 6, none⟩ = some (.slice none 0 0) := hL2.st.cell (i := 6) (by omega)
          have hf6 := hL2.st.frozen 6
          have hsz := hL2.st.lt
          go_wp2
          rename World => w2
          generalize hQ : w2.heap.size = Q at *
          go_loopg [133] n (fun k i w' => ∃ (j : Nat), j + k = n ∧ i = .int .i64 j ∧ L3 w w' n W z P Q vd j)
          case atStart => exact ⟨0, by omega, rfl, hQ ▸ L3.start hL2⟩
          case round =>
            clear hmk hs6 hf6 hsz
            obtain ⟨j, hj, rfl, hL3⟩ := hrel
            have hlo := hL3.lo
            have hmid := hL3.mid
            by_cases hlt : j < n
            · have hcell := (hL3.bel.cell (p := ⟨b, j, none⟩) hb).trans (hc j hlt)
              have hjW : j / 64 < W := by have := HW.out; omega
              by_cases hneg : z j < 0
              · obtain ⟨e, He⟩ : ∃ e : Nat, Hid (e = word (fun i => decide (i < j) && decide (z i < 0)) (j / 64)) := ⟨_, rfl⟩
                have hel : e < 18446744073709551616 := by rw [He.out]; exact word_lt _ _
                have c1 : wr.cell? ⟨w.heap.size, 1, none⟩ = some (.slice (some ⟨w.heap.size + 1, 0, none⟩) W W) := hL3.st.cell (i := 1) (by omega)
                have ce : wr.cell? ⟨w.heap.size + 1, j / 64, none⟩ = some (.int .u64 (e : Int)) := by rw [He.out]; exact hL3.ev.cell hjW
                have cf := hL3.ev.frozen (j / 64)
                go_wp2
                go_region
                go_wp2
                go_roundg (gk - 1)
                case measure => omega
                case rel => exact ⟨j + 1, by omega, by go_num, (hL3.every hneg _ (by rw [or_bit e _ hel (by omega), He.out])).drew⟩
              · obtain ⟨c, hcj⟩ : ∃ c : Nat, z j = c := ⟨(z j).toNat, by omega⟩
                have hct : c < top z n := by have := lt_top z n j hlt; omega
                have c4 : wr.cell? ⟨w.heap.size, 4, none⟩ = some (.slice (some ⟨P, 0, none⟩) (top z n) (top z n)) := hL3.st.cell (i := 4) (by omega)
                obtain ⟨f, hpos, hf⟩ := hL3.pos
                obtain ⟨f0, f1, f2⟩ := hf c hct
                have pf := fun i => hpos.frozen i
                by_cases hd : W ≤ cnt z n c
                · have hde : den z n W c = true := by simpa [den] using hd
                  have hdl := du_lt z n W hct hde
                  have hdm := Nat.mul_le_mul_right W hdl
                  rw [Nat.succ_mul] at hdm
                  have hdt := du_sp_le z n W (top z n)
                  have hfr : frm z n W c = du z n W c * W := by simp [frm, hde]
                  have p0 : wr.cell? ⟨P, c * 3, none⟩ = some (.bool true) := by rw [hpos.cell (i := c * 3) (by omega), f0, hde]
                  obtain ⟨fd, hdn, hfd⟩ := hL3.dn
                  obtain ⟨D, cd, rfl, hD1, hD2⟩ := hdn.some (by omega)
                  obtain ⟨F, HF⟩ : ∃ F, Hid (F = du z n W c * W) := ⟨_, rfl⟩
                  obtain ⟨N, HN⟩ : ∃ N, Hid (N = du z n W (top z n) * W) := ⟨_, rfl⟩
                  have hFN : F + j / 64 < N := by rw [HF.out, HN.out]; omega
                  have hN : N ≤ 65536 := by rw [HN.out]; omega
                  have p1 : wr.cell? ⟨P, c * 3 + 1, none⟩ = some (.int .i64 (F : Int)) := by rw [hpos.cell (i := c * 3 + 1) (by omega), f1, hfr, HF.out]
                  have c5 : wr.cell? ⟨w.heap.size, 5, none⟩ = some (.slice (some ⟨D, 0, none⟩) N cd) := by rw [HN.out]; exact hL3.st.cell (i := 5) (by omega)
                  obtain ⟨e, He⟩ : ∃ e : Nat, Hid (e = word (fun i => decide (i < j) && decide (z i = (c : Int))) (j / 64)) := ⟨_, rfl⟩
                  have hel : e < 18446744073709551616 := by rw [He.out]; exact word_lt _ _
                  have cD : wr.cell? ⟨D, F + j / 64, none⟩ = some (.int .u64 (e : Int)) := by rw [He.out, HF.out, hdn.cell (by rw [← HF.out, ← HN.out]; exact hFN), hfd c hct hde _ hjW]
                  have cDf := hdn.frozen (F + j / 64)
                  have hend : L3 w (wr.setCell ⟨D, F + j / 64, none⟩ (.int .u64 (bits .or .u64 (e : Int) (IntKind.u64.wrap (2 ^ (j % 64)))))) n W z P Q (.slice (some ⟨D, 0, none⟩) (du z n W (top z n) * W) cd) (j + 1) := by
                    rw [HF.out]
                    exact hL3.dense hcj hde hjW _ (by rw [or_bit e _ hel (by omega), He.out])
                  have HE : Hid (L3 w (wr.setCell ⟨D, F + j / 64, none⟩ (.int .u64 (bits .or .u64 (e : Int) (IntKind.u64.wrap (2 ^ (j % 64)))))) n W z P Q (.slice (some ⟨D, 0, none⟩) (du z n W (top z n) * W) cd) (j + 1)) := hend
                  clear hend hf f0 f1 f2 hfd hfr hde hdm hdl hdt
                  go_wp2
                  go_region
                  go_wp2
                  go_roundg (gk - 1)
                  case measure => omega
                  case rel => exact ⟨j + 1, by omega, by go_num, HE.out.drew⟩
                · have hde : den z n W c = false := by simpa [den] using hd
                  have hcn : cnt z j c < cnt z n c := by
                    have h1 := cnt_mono z c (j := j + 1) (k := n) hlt
                    have h2 := cnt_succ_eq z j
                    rw [hcj] at h2
                    omega
                  have hsl := sp_lt z n W hct hde
                  have hdt := du_sp_le z n W (top z n)
                  have htl : til z n W j c = sp z n W c + cnt z j c := by simp [til, hde]
                  have p0 : wr.cell? ⟨P, c * 3, none⟩ = some (.bool false) := by rw [hpos.cell (i := c * 3) (by omega), f0, hde]
                  obtain ⟨T, HT⟩ : ∃ T, Hid (T = sp z n W c + cnt z j c) := ⟨_, rfl⟩
                  obtain ⟨N, HN⟩ : ∃ N, Hid (N = sp z n W (top z n)) := ⟨_, rfl⟩
                  have hTN : T < N := by rw [HT.out, HN.out]; omega
                  have hN : N ≤ 65536 := by rw [HN.out]; omega
                  have p2 : wr.cell? ⟨P, c * 3 + 2, none⟩ = some (.int .i64 (T : Int)) := by rw [hpos.cell (i := c * 3 + 2) (by omega), f2, htl, HT.out]
                  have c6 : wr.cell? ⟨w.heap.size, 6, none⟩ = some (.slice (some ⟨Q, 0, none⟩) N N) := by rw [HN.out]; exact hL3.st.cell (i := 6) (by omega)
                  obtain ⟨fs, hsp, hfs⟩ := hL3.spr
                  have cQ : wr.cell? ⟨Q, T, none⟩ = some (.int .i64 (fs T : Int)) := hsp.cell (by rw [← HN.out]; exact hTN)
                  have cQf := hsp.frozen T
                  have hend : L3 w ((wr.setCell ⟨Q, T, none⟩ (.int .i64 (j : Int))).setCell ⟨P, c * 3 + 2, none⟩ (.int .i64 ((T : Int) + 1))) n W z P Q vd (j + 1) := by
                    rw [HT.out]
                    exact hL3.sparse hcj hlt hde hct _ _ rfl rfl
                  have HE : Hid (L3 w ((wr.setCell ⟨Q, T, none⟩ (.int .i64 (j : Int))).setCell ⟨P, c * 3 + 2, none⟩ (.int .i64 ((T : Int) + 1))) n W z P Q vd (j + 1)) := hend
                  clear hend hf f0 f1 f2 hfs htl hde hsl hdt hcn
                  go_wp2
                  go_region
                  go_wp2
                  go_roundg (gk - 1)
                  case measure => omega
                  case rel => exact ⟨j + 1, by omega, by go_num, HE.out.drew⟩
            · obtain rfl : n = j := by omega
              go_wp2
              go_ret
              exact ⟨rfl, P, Q, vd, HW.out ▸ hL3⟩
end Go.Proofs.Qxb6602406a
