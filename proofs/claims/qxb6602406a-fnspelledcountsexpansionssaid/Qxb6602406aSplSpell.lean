/-
  Seat b6602406a: the walk of spelled.
-/
import Derived.Test.Qxb6602406aSplSmall
import Derived.Deep.RegionWith
import Derived.Deep.DeepCutAuto
import Derived.Deep.CutBlock
namespace Go.Proofs.Qxb6602406a.Spell
open Go.RowKit

set_option maxRecDepth 100000 in
theorem product_any (a b most B : Nat) (w : World) (ha : a ≤ 4611686018427387904) (hm : most ≤ 4611686018427387903) (hc : w.cell? ⟨B, 0, none⟩ = some (.int .i64 most)) :
    Calls Try.prog 37 #[.int .i64 a, .int .i64 b, .pointer (some ⟨B, 0, none⟩)] w fun e w' => e = .returned (.int .i64 ((min most (a * b) : Nat) : Int)) ∧ w = w' := by
  by_cases h0 : a = 0
  · subst h0
    rw [Nat.zero_mul, Nat.min_zero]
    go_enter Try.func37, Try.ntmps37
    go_wp2
    · go_ret
      exact ⟨rfl, rfl⟩
    · go_ret
      obtain rfl : most = 0 := by omega
      exact ⟨rfl, rfl⟩
  · have g0 : ((0 : Int) < (a : Int)) := by omega
    obtain ⟨Q, HQ⟩ : ∃ Q, Hid (Q = most / a) := ⟨_, rfl⟩
    have hQ : Q ≤ 4611686018427387903 := by rw [HQ.out]; exact Nat.le_trans (Nat.div_le_self _ _) hm
    have q1 : IntKind.i64.wrap ((most : Int) / (a : Int)) = (Q : Int) := by rw [← Int.natCast_ediv, ← HQ.out]; exact IntWalk.i64_in _ (by omega)
    have q2 : wrap64 ((most : Int) / (a : Int)) = (Q : Int) := by rw [← IntWalk.i64_left]; exact q1
    by_cases hb2 : Q < b
    · have g2 : decide (Q < b) = true := by simp [hb2]
      have e : min most (a * b) = most := by
        have h2 : a * (Q + 1) ≤ a * b := Nat.mul_le_mul_left a hb2
        have h3 : most < a * (Q + 1) := by rw [HQ.out]; have := Nat.lt_mul_div_succ most (show 0 < a by omega); exact this
        omega
      rw [e]
      clear e hb2
      go_enter Try.func37, Try.ntmps37
      go_wp2
      go_ret
      exact ⟨rfl, rfl⟩
    · have g2 : decide (Q < b) = false := by simp; omega
      obtain ⟨X, HX⟩ : ∃ X, Hid (X = a * b) := ⟨_, rfl⟩
      have hX : X ≤ most := by
        rw [HX.out]
        have h2 : a * b ≤ a * Q := Nat.mul_le_mul_left a (by omega)
        have h3 : a * Q ≤ most := by rw [HQ.out]; exact Nat.mul_div_le most a
        omega
      have x1 : IntKind.i64.wrap ((a : Int) * (b : Int)) = (X : Int) := by rw [← Int.natCast_mul, ← HX.out]; exact IntWalk.i64_in _ (by omega)
      have x2 : wrap64 ((a : Int) * (b : Int)) = (X : Int) := by rw [← IntWalk.i64_left]; exact x1
      have e : min most (a * b) = X := by have := HX.out; omega
      rw [e]
      clear hb2 e
      go_enter Try.func37, Try.ntmps37
      go_wp2
      · go_ret
        exact ⟨rfl, rfl⟩
      · go_ret
        obtain rfl : most = X := by omega
        exact ⟨rfl, rfl⟩

/-- The first number that spelled answers. -/
def One (most d : Nat) (T : Tree) (p : Nat) : Prop := p = if T.N = 0 then 1 else min most (cnt d T).1

theorem One.cap {most d : Nat} {T : Tree} {p : Nat} (h : One most d T p) : min most p = min most (cnt d T).1 := by
  unfold One at h
  by_cases h0 : T.N = 0
  · rw [if_pos h0] at h
    have e : (cnt d T).1 = 1 := by
      cases d with
      | zero => rfl
      | succ d => rw [cnt_succ, h0]; rfl
    rw [h, e]
  · rw [if_neg h0] at h
    rw [h, cap_idem]
theorem One.le {most d : Nat} {T : Tree} {p : Nat} (h : One most d T p) : p ≤ most + 1 := by
  unfold One at h
  split at h <;> omega

/-- What one token is worth, as spelled reckons it. -/
def Worth (most d : Nat) (T : Tree) (j : Nat) (vn vc : Value) : Prop :=
  ∃ n ch : Nat, vn = .int .i64 n ∧ vc = .int .i64 ch ∧ n ≤ 4611686018427387904 ∧ ch ≤ 4611686018427387904 ∧ min most n = min most (Pn d T j) ∧ min most ch = min most (Cn d T j)

set_option maxRecDepth 100000 in
set_option maxHeartbeats 2000000 in
theorem spelled_any (most : Nat) (hm : most ≤ 4611686018427387903) (d : Nat) : ∀ (v : Value) (T : Tree) (w : World) (lo : Nat), At 4 3 w lo d v T →
    Calls Try.prog 32 #[v, .int .i64 most] w fun e w' => ∃ p c : Nat, e = .returned (.tuple #[.int .i64 p, .int .i64 c]) ∧ One most d T p ∧ Hid (c = min most (cnt d T).2) ∧ Below w.heap.size w w' := by
  induction d with
  | zero => intro v T w lo h; exact h.elim
  | succ d ih =>
    rintro v T w lo ⟨ao, c, rfl, hnil, hN, hrow⟩
    have IH : Hid (∀ (v : Value) (T : Tree) (w : World) (lo : Nat), At 4 3 w lo d v T → Calls Try.prog 32 #[v, .int .i64 most] w fun e w' => ∃ p c : Nat, e = .returned (.tuple #[.int .i64 p, .int .i64 c]) ∧ One most d T p ∧ Hid (c = min most (cnt d T).2) ∧ Below w.heap.size w w') := ih
    clear ih hnil
    have hmf : ∀ (fn : Fn) (first cap : Array Value) (w : World), (Instr.makeFunc fn first cap).run Try.prog w = .ok (.func fn first cap) w := fun _ _ _ _ => rfl
    go_enter Try.func32, Try.ntmps32
    go_wp2
    clear hmf
    obtain ⟨w0, hw0⟩ : ∃ w0, w0 = w.alloc (.cells #[.int .i64 (most : Int)] 3) := ⟨_, rfl⟩
    rw [← hw0]
    have hbx : w0.cell? ⟨w.heap.size, 0, none⟩ = some (.int .i64 (most : Int)) := by rw [hw0, World.cell?_alloc_new]; rfl
    have hb0 : Below w.heap.size w w0 := by rw [hw0]; exact (Below.refl _ _).alloc (Nat.le_refl _) _
    clear hw0
    go_loopg [4, 5, 18] T.N (fun k a b i w' => ∃ (j p c : Nat), j + k = T.N ∧ i = .int .i64 j ∧ a = .int .i64 p ∧ b = .int .i64 c ∧ Hid (p = if j = 0 then 1 else min most (patUp (Pn d T) j)) ∧ Hid (c = min most (chrUp (Pn d T) (Cn d T) j)) ∧ Below w0.heap.size w0 w')
    case atStart => exact ⟨0, 1, 0, by omega, rfl, rfl, rfl, by unfold Hid; simp, by unfold Hid; simp [chrUp], Below.refl _ _⟩
    case round =>
      obtain ⟨j, p, c', hj, rfl, rfl, rfl, HP, Hc, hbel⟩ := hrel
      by_cases hlt : j < T.N
      · rcases hrow with h | ⟨b, o, rfl, hlo, hrow⟩
        · omega
        · obtain ⟨c0, c1, c2, v', c3, oo, oc, rfl, hon, hM, hopt⟩ := hrow j hlt
          have d0 := cell_below hbel (cell_below hb0 c0)
          have d1 := cell_below hbel (cell_below hb0 c1)
          have d2 := cell_below hbel (cell_below hb0 (c2 (by first | rfl | trivial)))
          have d3 := cell_below hbel (cell_below hb0 c3)
          have bx := cell_below hbel hbx
          have HO : Hid (T.M j = 0 ∨ ∃ b o, oo = some ⟨b, o, none⟩ ∧ lo ≤ b ∧ ∀ k, k < T.M j → ∃ v', w.cell? ⟨b, o + k, none⟩ = some v' ∧ At 4 3 w lo d v' (T.sub j k)) := hopt
          clear hrow hopt c0 c1 c2 c3
          rename World => w1
          go_upto_block 2 with (fail)
          go_cut [9, 10] (fun x y w' => Worth most d T j x y ∧ Below w1.heap.size w1 w')
          case first =>
            have hal : ∀ o, Below w1.heap.size w1 (w1.alloc o) := fun o => (Below.refl _ _).alloc (Nat.le_refl _) _
            by_cases h3 : T.K j = 3
            · have g3 : (T.K j == 3) = true := by simp [h3]
              have HW : Hid (Worth most d T j (.int .i64 2) (.int .i64 2)) := ⟨2, 2, rfl, rfl, by omega, by omega, by simp [Pn, np, h3], by simp [Cn, nc, h3]⟩
              clear h3
              go_wp2
              go_meet
              exact ⟨HW.out, hal _⟩
            · have g3 : (T.K j == 3) = false := by simp [h3]
              by_cases h4 : T.K j = 4
              · have g4 : (T.K j == 4) = true := by simp [h4]
                have HN : Hid (Pn d T j = if T.M j = 0 then 1 else sumUp (fun k => (cnt d (T.sub j k)).1) (T.M j)) := by unfold Hid; simp [Pn, np, h4]
                have HCn : Hid (Cn d T j = sumUp (fun k => (cnt d (T.sub j k)).2) (T.M j)) := by unfold Hid; simp [Cn, nc, h4]
                clear h3 h4
                go_wp2
                have k3 : (w1.alloc (.cells #[.int .i64 (T.K j), .string (T.L j), .pointer none, .slice oo (T.M j) oc] 73)).cell? ⟨w1.heap.size, 3, none⟩ = some (.slice oo (T.M j) oc) := by rw [World.cell?_alloc_new]; rfl
                have hal2 := hal (.cells #[.int .i64 (T.K j), .string (T.L j), .pointer none, .slice oo (T.M j) oc] 73)
                generalize w1.alloc (.cells #[.int .i64 (T.K j), .string (T.L j), .pointer none, .slice oo (T.M j) oc] 73) = w2 at k3 hal2 ⊢
                have by2 := cell_below hal2 bx
                clear d0 d1 d2 d3 bx hal
                go_loopg [9, 10, 31] (T.M j) (fun k x y i w' => ∃ (q n ch : Nat), q + k = T.M j ∧ i = .int .i64 q ∧ x = .int .i64 n ∧ y = .int .i64 ch ∧ Hid (n = min most (sumUp (fun k => (cnt d (T.sub j k)).1) q)) ∧ Hid (ch = min most (sumUp (fun k => (cnt d (T.sub j k)).2) q)) ∧ Below w2.heap.size w2 w')
                case atStart => exact ⟨0, 0, 0, by omega, rfl, rfl, rfl, by unfold Hid; simp [sumUp], by unfold Hid; simp [sumUp], Below.refl _ _⟩
                case round =>
                  obtain ⟨q, n, ch, hq, rfl, rfl, rfl, Hn, Hch, hb3⟩ := hrel
                  have hn1 : n ≤ most := by rw [Hn.out]; omega
                  have hch1 : ch ≤ most := by rw [Hch.out]; omega
                  by_cases hqm : q < T.M j
                  · rcases HO.out with h | ⟨b', o', rfl, hlo', hopt⟩
                    · omega
                    · obtain ⟨v', cq, hat⟩ := hopt q hqm
                      have hB3 : Below w.heap.size w wr := ((hb0.trans (hbel.mono hb0.size)).trans (hal2.mono (Nat.le_trans hb0.size hbel.size))).trans (hb3.mono (Nat.le_trans (Nat.le_trans hb0.size hbel.size) hal2.size))
                      have dq := cell_below hB3 cq
                      have bq := cell_below hb3 by2
                      have hcall := IH.out v' (T.sub j q) wr lo (hat.below hB3)
                      clear hopt cq hat hB3
                      go_upto_region 16 with (go_at_call 32; refine hcall.mono ?_; rintro e w4 ⟨on, oc', rfl, hone, hoc, hb4⟩)
                      have bq4 := cell_below hb4 bq
                      have hon1 := hone.le
                      have hoc1 : oc' ≤ most := by rw [hoc.out]; omega
                      have Hone : Hid (min most on = min most (cnt d (T.sub j q)).1) := hone.cap
                      have Hoc : Hid (oc' = min most (cnt d (T.sub j q)).2) := hoc
                      clear hone hoc bq dq hcall
                      have Hkey : Hid (∀ n' ch' : Nat, n' = min most (n + on) → ch' = min most (ch + oc') → n' = min most (sumUp (fun k => (cnt d (T.sub j k)).1) (q + 1)) ∧ ch' = min most (sumUp (fun k => (cnt d (T.sub j k)).2) (q + 1))) := by
                        rintro n' ch' rfl rfl
                        refine ⟨cap_add (by rw [Hn.out, cap_idem]) Hone.out, cap_add (by rw [Hch.out, cap_idem]) (by rw [Hoc.out, cap_idem])⟩
                      by_cases s1 : n + on < most
                      · by_cases s2 : ch + oc' < most
                        · go_region
                          go_wp2
                          go_roundg (gk - 1)
                          case measure => omega
                          case rel => exact ⟨q + 1, (n + on), (ch + oc'), by omega, by go_num, by go_num, by go_num, (Hkey.out (n + on) (ch + oc') (by omega) (by omega)).1, (Hkey.out (n + on) (ch + oc') (by omega) (by omega)).2, below_drewN (hb3.trans (hb4.mono hb3.size)) 1⟩
                        · go_region
                          go_wp2
                          go_roundg (gk - 1)
                          case measure => omega
                          case rel => exact ⟨q + 1, (n + on), most, by omega, by go_num, by go_num, by go_num, (Hkey.out (n + on) most (by omega) (by omega)).1, (Hkey.out (n + on) most (by omega) (by omega)).2, below_drewN (hb3.trans (hb4.mono hb3.size)) 1⟩
                      · by_cases s2 : ch + oc' < most
                        · go_region
                          go_wp2
                          go_roundg (gk - 1)
                          case measure => omega
                          case rel => exact ⟨q + 1, most, (ch + oc'), by omega, by go_num, by go_num, by go_num, (Hkey.out most (ch + oc') (by omega) (by omega)).1, (Hkey.out most (ch + oc') (by omega) (by omega)).2, below_drewN (hb3.trans (hb4.mono hb3.size)) 1⟩
                        · go_region
                          go_wp2
                          go_roundg (gk - 1)
                          case measure => omega
                          case rel => exact ⟨q + 1, most, most, by omega, by go_num, by go_num, by go_num, (Hkey.out most most (by omega) (by omega)).1, (Hkey.out most most (by omega) (by omega)).2, below_drewN (hb3.trans (hb4.mono hb3.size)) 1⟩
                  · obtain rfl : T.M j = q := by omega
                    have k3' := cell_below hb3 k3
                    have HB4 : Hid (Below w1.heap.size w1 wr) := hal2.trans (hb3.mono hal2.size)
                    by_cases hM0 : T.M j = 0
                    · have g5 : ((T.M j : Int) == 0) = true := by simp [hM0]
                      have HW : Hid (Worth most d T j (.int .i64 1) (.int .i64 ch)) := ⟨1, ch, rfl, rfl, by omega, by omega, by rw [HN.out, if_pos hM0], by rw [HCn.out, Hch.out, cap_idem]⟩
                      clear hM0
                      go_wp2
                      go_meet
                      exact ⟨HW.out, HB4.out⟩
                    · have g5 : ((T.M j : Int) == 0) = false := by simp [hM0]
                      have HW : Hid (Worth most d T j (.int .i64 n) (.int .i64 ch)) := ⟨n, ch, rfl, rfl, by omega, by omega, by rw [HN.out, if_neg hM0, Hn.out, cap_idem], by rw [HCn.out, Hch.out, cap_idem]⟩
                      clear hM0
                      go_wp2
                      go_meet
                      exact ⟨HW.out, HB4.out⟩
              · have g4 : (T.K j == 4) = false := by simp [h4]
                have HW : Hid (Worth most d T j (.int .i64 1) (.int .i64 1)) := ⟨1, 1, rfl, rfl, by omega, by omega, by simp [Pn, np, h3, h4], by simp [Cn, nc, h3, h4]⟩
                clear h3 h4
                go_wp2
                go_meet
                exact ⟨HW.out, hal _⟩
          case rest =>
            obtain ⟨⟨n, ch, rfl, rfl, hn1, hch1, hPn, hCn⟩, hb2⟩ := hcut
            have bk := cell_below hb2 bx
            have HB : Hid (Below w0.heap.size w0 wc) := hbel.trans (hb2.mono hbel.size)
            have hc1 : c' ≤ most := by rw [Hc.out]; omega
            have hp1 : p ≤ most + 1 := by rw [HP.out]; split <;> omega
            obtain ⟨F, HF⟩ : ∃ F : Nat → Nat → Nat, Hid (∀ a b, F a b = min most (a * b)) := ⟨fun a b => min most (a * b), fun _ _ => rfl⟩
            have hP : ∀ (a b N : Nat), a ≤ 4611686018427387904 → Calls Try.prog 37 #[.int .i64 a, .int .i64 b, .pointer (some ⟨w.heap.size, 0, none⟩)] (wc.drewN N) fun e w' => e = .returned (.int .i64 (F a b : Int)) ∧ w' = wc.drewN N := by
              intro a b N ha
              rw [HF.out]
              refine (product_any a b most w.heap.size (wc.drewN N) ha hm bk).mono ?_
              rintro e w' ⟨rfl, rfl⟩
              exact ⟨rfl, rfl⟩
            have hc2 : c' ≤ 4611686018427387904 := by omega
            have hp2 : p ≤ 4611686018427387904 := by omega
            have hX1 : F c' n ≤ most := by rw [HF.out]; omega
            have hY1 : F ch p ≤ most := by rw [HF.out]; omega
            have hpc : min most p = min most (patUp (Pn d T) j) := by
              rw [HP.out]
              by_cases h0 : j = 0
              · rw [if_pos h0, h0]; rfl
              · rw [if_neg h0, cap_idem]
            have HZp : Hid (F p n = if j + 1 = 0 then 1 else min most (patUp (Pn d T) (j + 1))) := by
              unfold Hid
              rw [if_neg (by omega), HF.out]
              exact cap_mul hpc hPn
            have HCc : Hid (∀ C' : Nat, C' = min most (F c' n + F ch p) → C' = min most (chrUp (Pn d T) (Cn d T) (j + 1))) := by
              rintro C' rfl
              refine cap_add ?_ ?_
              · rw [HF.out, cap_idem]; exact cap_mul (by rw [Hc.out, cap_idem]) hPn
              · rw [HF.out, cap_idem]; exact cap_mul hCn hpc
            clear hpc hPn hCn hb2 hbel d0 d1 d2 d3 bx
            go_upto_region 20 with (fail)
            by_cases s1 : F c' n + F ch p < most
            · go_quiet ((go_at_call 37; exact Calls.quiet_of_same (hP _ _ _ (by assumption))))
              have hZ := hP p n nq hp2
              go_wp2_with (go_at_call 37; refine hZ.mono ?_; rintro e w' ⟨rfl, rfl⟩)
              go_roundg (gk - 1)
              case measure => omega
              case rel => exact ⟨j + 1, F p n, F c' n + F ch p, by omega, by go_num, by go_num, by go_num, HZp.out, HCc.out _ (by omega), below_drewN HB.out nq⟩
            · go_quiet ((go_at_call 37; exact Calls.quiet_of_same (hP _ _ _ (by assumption))))
              have hZ := hP p n nq hp2
              go_wp2_with (go_at_call 37; refine hZ.mono ?_; rintro e w' ⟨rfl, rfl⟩)
              go_roundg (gk - 1)
              case measure => omega
              case rel => exact ⟨j + 1, F p n, most, by omega, by go_num, by go_num, by go_num, HZp.out, HCc.out _ (by omega), below_drewN HB.out nq⟩
      · obtain rfl : T.N = j := by omega
        go_wp2
        refine bodyPost_ret (v := .tuple #[.int .i64 p, .int .i64 c']) ?_ rfl ⟨p, c', rfl, ?_, ?_, ?_⟩
        · simp [results, Try.results32, go_sem]
        · exact HP.out
        · exact Hc.out
        · exact hb0.trans (hbel.mono hb0.size)

end Go.Proofs.Qxb6602406a.Spell
