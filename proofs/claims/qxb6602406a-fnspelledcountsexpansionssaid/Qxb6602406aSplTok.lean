/-
  Seat b6602406a: the walk of tokBytes.
-/
import Derived.Test.Qxb6602406aSplMem
namespace Go.Proofs.Qxb6602406a.Spell
open Go.RowKit

set_option maxRecDepth 100000 in
set_option maxHeartbeats 2000000 in
theorem tokBytes_any (d : Nat) : ∀ (v : Value) (T : Tree) (acc : Int) (w : World) (lo : Nat), At 3 2 w lo d v T →
    Calls Try.prog 14 #[v, .int .i64 acc] w fun e w' => ∃ r : Int, e = .returned (.int .i64 r) ∧ Below w.heap.size w w' := by
  induction d with
  | zero => intro v T acc w lo h; exact h.elim
  | succ d ih =>
    rintro v T acc w lo ⟨ao, c, rfl, hnil, hN, hrow⟩
    have IH : Hid (∀ (v : Value) (T : Tree) (acc : Int) (w : World) (lo : Nat), At 3 2 w lo d v T → Calls Try.prog 14 #[v, .int .i64 acc] w fun e w' => ∃ r : Int, e = .returned (.int .i64 r) ∧ Below w.heap.size w w') := ih
    clear ih hnil
    go_enter Try.func14, Try.ntmps14
    go_wp2
    go_loopg [1, 5] T.N (fun k a i w' => ∃ (j : Nat) (r : Int), j + k = T.N ∧ i = .int .i64 j ∧ a = .int .i64 r ∧ Below w.heap.size w w')
    case atStart => exact ⟨0, acc, by omega, rfl, rfl, Below.refl _ _⟩
    case round =>
      obtain ⟨j, r, hj, rfl, rfl, hbel⟩ := hrel
      by_cases hlt : j < T.N
      · have hlt' : (j : Int) < (T.N : Int) := by omega
        rcases hrow with h | ⟨b, o, rfl, hlo, hrow⟩
        · omega
        · obtain ⟨c0, c1, _, v', c2, oo, oc, rfl, hon, hM, hopt⟩ := hrow j hlt
          have d1 := cell_below hbel c1
          have d2 := cell_below hbel c2
          have HO : Hid (T.M j = 0 ∨ ∃ b o, oo = some ⟨b, o, none⟩ ∧ lo ≤ b ∧ ∀ k, k < T.M j → ∃ v', w.cell? ⟨b, o + k, none⟩ = some v' ∧ At 3 2 w lo d v' (T.sub j k)) := hopt
          clear hrow c0 c1 hopt hon
          go_wp2
          go_quiet (fail)
          go_wp2
          · go_ret
            exact ⟨_, rfl, below_drewN hbel _⟩
          · generalize hw1 : wr.drewN _ = w1
            have hb1 : Below w.heap.size w w1 := by rw [← hw1]; exact below_drewN hbel _
            have e2 : w1.cell? ⟨b, o + j * 3 + 2, none⟩ = some (.slice oo (T.M j) oc) := cell_below hb1 c2
            clear hw1 hbel d1 d2 c2
            go_loopg [1, 6] (T.M j) (fun k a i w' => ∃ (q : Nat) (r : Int), q + k = T.M j ∧ i = .int .i64 q ∧ a = .int .i64 r ∧ Below w1.heap.size w1 w')
            case atStart => exact ⟨0, _, by omega, rfl, rfl, Below.refl _ _⟩
            case round =>
              obtain ⟨q, r', hq, rfl, rfl, hb2⟩ := hrel
              have f2 := cell_below hb2 e2
              have hsz := hb1.size
              by_cases hqm : q < T.M j
              · rcases HO.out with h | ⟨b', o', rfl, hlo', hopt⟩
                · omega
                · obtain ⟨v', cq, hat⟩ := hopt q hqm
                  have dq := cell_below hb2 (cell_below hb1 cq)
                  have hat' := (hat.below hb1).below hb2
                  have hcall := IH.out v' (T.sub j q) r' wr lo hat'
                  clear hopt cq hat hat'
                  go_wp2_with (go_at_call 14; refine hcall.mono ?_; rintro e w2 ⟨r2, rfl, hb3⟩)
                  · go_ret
                    exact ⟨_, rfl, (hb1.trans (hb2.mono hsz)).trans (hb3.mono (Nat.le_trans hsz hb2.size))⟩
                  · go_roundg (gk - 1)
                    case measure => omega
                    case rel => exact ⟨q + 1, r2, by omega, by go_num, rfl, hb2.trans (hb3.mono hb2.size)⟩
              · obtain rfl : T.M j = q := by omega
                go_wp2
                go_roundg (T.N - (j + 1))
                case measure => omega
                case rel => exact ⟨j + 1, r', by omega, by go_num, rfl, hb1.trans (hb2.mono hsz)⟩
      · obtain rfl : T.N = j := by omega
        go_wp2
        go_ret
        exact ⟨r, rfl, hbel⟩

end Go.Proofs.Qxb6602406a.Spell
