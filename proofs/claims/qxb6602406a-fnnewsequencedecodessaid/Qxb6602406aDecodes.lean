/-
  Seat b6602406a: the walk of FnNewSequenceDecodes.
-/
import Derived.Test.Qxb6602406aCompact
namespace Go.Proofs.Qxb6602406a
open Go.RowKit

theorem rowIs_below {w w' : World} {b : Nat} {t : TypeId} {n : Nat} {f : Nat → Value} (h : w.rowIs b t n f) (hb : Below w.heap.size w w') : w'.rowIs b t n f := h.of_block (hb.block _ h.lt)

/-- One bit of a word, as the walk reads it. -/
theorem bit_test (e k : Nat) (he : e < 18446744073709551616) : bits .and .u64 ((e : Int) / 2 ^ k) 1 = if e.testBit k then 1 else 0 := by
  have h1 : ((e : Int) / 2 ^ k) = ((e / 2 ^ k : Nat) : Int) := by rw [Int.natCast_ediv, Int.natCast_pow]; rfl
  have h2 : e / 2 ^ k < 18446744073709551616 := Nat.lt_of_le_of_lt (Nat.div_le_self _ _) he
  have h3 := bits_and_u64_nat (e / 2 ^ k) 1 h2 (by omega)
  rw [h1]
  rw [show (1 : Int) = ((1 : Nat) : Int) from rfl, h3, Nat.and_one_is_mod, Nat.testBit_eq_decide_div_mod_eq]
  by_cases h : e / 2 ^ k % 2 = 1
  · simp [h]
  · have : e / 2 ^ k % 2 = 0 := by omega
    simp [this]

set_option maxRecDepth 100000 in
theorem decodes_long (a : Option Addr) (n cap : Nat) (w : World) (h : 65536 < n) :
    Calls Try.prog 3 #[.slice a n cap] w fun e w' => e = .returned (.bool true) ∧ Below w.heap.size w w' := by
  by_cases h1 : 1048576 < n
  · go_enter Try.func3, Try.ntmps3
    go_wp2_with (go_at_call 10; refine (guard10_no a n cap w h1).mono ?_; rintro e w' ⟨rfl, rfl⟩)
    go_ret
    exact ⟨rfl, Below.refl _ _⟩
  · go_enter Try.func3, Try.ntmps3
    go_wp2_with (go_at_call 10; refine (guard10 a n cap w (by omega)).mono ?_; rintro e w' ⟨rfl, rfl⟩)
    go_ret
    exact ⟨rfl, Below.refl _ _⟩

set_option maxRecDepth 100000 in
theorem decodes_none (a : Option Addr) (cap : Nat) (w : World) :
    Calls Try.prog 3 #[.slice a 0 cap] w fun e w' => e = .returned (.bool true) ∧ Below w.heap.size w w' := by
  go_enter Try.func3, Try.ntmps3
  go_wp2_with (go_at_call 10; refine (guard10 a 0 cap w (by omega)).mono ?_; rintro e w' ⟨rfl, rfl⟩)
  go_ret
  exact ⟨rfl, Below.refl _ _⟩

set_option maxRecDepth 100000 in
set_option maxHeartbeats 4000000 in
theorem decodes_some (b off n cap : Nat) (z : Nat → Int) (w : World) (h0 : 0 < n) (hn : n ≤ 65536) (hb : b < w.heap.size) (hc : ∀ t, t < n → w.cell? ⟨b, off + t, none⟩ = some (.int .i64 (z t))) :
    Calls Try.prog 3 #[.slice (some ⟨b, off, none⟩) n cap] w fun e w' => e = .returned (.bool true) ∧ Below w.heap.size w w' := by
  have hn0 : ((n : Int) == 0) = false := by simp; omega
  have hn1 : decide ((65536 : Int) < (n : Int)) = false := by simp; omega
  go_enter Try.func3, Try.ntmps3
  go_wp2_with (go_at_call 10; refine (guard10 _ n cap w (by omega)).mono ?_; rintro e w' ⟨rfl, rfl⟩)
  go_loopg [3] n (fun k i w' => ∃ (j : Nat), j + k = n ∧ i = .int .i64 j ∧ w = w' ∧ ∀ t, t < j → z t ≤ 65536)
  case atStart => exact ⟨0, by omega, rfl, rfl, fun t ht => by omega⟩
  case round =>
    obtain ⟨j, hj, rfl, rfl, hz⟩ := hrel
    by_cases hlt : j < n
    · have hcell := hc j hlt
      by_cases hbig : 65536 < z j
      · go_wp2
        go_ret
        exact ⟨rfl, Below.refl _ _⟩
      · go_wp2
        go_roundg (gk - 1)
        case measure => omega
        case rel => exact ⟨j + 1, by omega, by go_num, rfl, fun t ht => by
          by_cases e : t = j
          · subst e; omega
          · exact hz t (by omega)⟩
    · obtain rfl : n = j := by omega
      obtain ⟨W, HW⟩ : ∃ W, Hid (W = (n - 1) / 64 + 1) := ⟨_, rfl⟩
      obtain ⟨lw, Hl⟩ : ∃ lw, Hid (lw = (n - 1) / 64) := ⟨_, rfl⟩
      obtain ⟨lb, Hb⟩ : ∃ lb, Hid (lb = IntKind.u64.wrap (2 ^ ((n - 1) % 64))) := ⟨_, rfl⟩
      have hW1 : 1 ≤ W := by have := HW.out; omega
      have hW2 : W ≤ 1024 := by have := HW.out; omega
      have hww : ((n : Int) + 63) / 64 = (W : Int) := by have := HW.out; omega
      have hlw : ((n : Int) - 1) / 64 = (lw : Int) := by have := Hl.out; omega
      have hlb : (lb != IntKind.u64.wrap (2 ^ ((n - 1) % 64))) = false := by rw [Hb.out]; simp
      go_wp2_with (first | (go_at_call 11; refine (copy_any b off n cap z w h0 hn hb hc).mono ?_; rintro e w1 ⟨rfl, hrow, hbel, hsz⟩) | (go_at_call 12; refine (zzseqW w.heap.size n W lw lb z w1 HW Hl Hb h0 hn hz (by omega) (fun t ht => hrow.cell ht)).mono ?_; rintro e w2 ⟨E, A, F, T, Q, vd, rfl, hS⟩))
      rw [hww]
      clear hww hlw hlb hc hb
      have hcl : ∀ t, t < n → w2.cell? ⟨w.heap.size, t, none⟩ = some (.int .i64 (z t)) := fun t ht => (hS.bel.cell (p := ⟨w.heap.size, t, none⟩) (by show w.heap.size < w1.heap.size; omega)).trans (hrow.cell ht)
      have hbel2 : Below w.heap.size w w2 := hbel.trans (hS.bel.mono (by omega))
      have hsz2 : w.heap.size < w2.heap.size := by have := hS.bel.size; omega
      have hK := top_le z n n 65536 (by omega) hz
      clear hrow hbel hsz
      -- the greatest class
      go_loopg [15, 16] n (fun k v i w' => ∃ (j : Nat), j + k = n ∧ i = .int .i64 j ∧ v = .int .i64 (top z j) ∧ w2 = w')
      case atStart => exact ⟨0, by omega, rfl, rfl, rfl⟩
      case round =>
        obtain ⟨j, hj, rfl, rfl, rfl⟩ := hrel
        by_cases hlt : j < n
        · have hcell := hcl j hlt
          have hzj := hz j hlt
          have htj := top_le z n j 65536 (by omega) hz
          by_cases hlow : z j < top z j
          · have HT : Hid (top z (j + 1) = top z j) := top_lt z j hlow
            go_wp2
            go_roundg (gk - 1)
            case measure => omega
            case rel => exact ⟨j + 1, by omega, by go_num, by rw [HT.out], rfl⟩
          · obtain ⟨c, hcj⟩ : ∃ c : Nat, z j = c := ⟨(z j).toNat, by omega⟩
            have HT : Hid (top z (j + 1) = c + 1) := top_ge z j c hcj (by omega)
            go_wp2
            go_roundg (gk - 1)
            case measure => omega
            case rel => exact ⟨j + 1, by omega, by go_num, by rw [HT.out]; go_num, rfl⟩
        · obtain rfl : n = j := by omega
          have hmk := mk_row (P := Try.prog) 22 3 (.int .i64 0) 8 Try.underlying22 Try.info3 rfl (top z n : Int) (top z n) rfl (by omega) (by omega)
          go_wp2
          clear hmk
          -- the counts
          go_loopg [18] n (fun k i w' => ∃ (j : Nat), j + k = n ∧ i = .int .i64 j ∧ w'.rowIs w2.heap.size 3 (top z n) (fun c => .int .i64 (cnt z j c)) ∧ Below w2.heap.size w2 w')
          case atStart => exact ⟨0, by omega, rfl, (World.rowIs_made w2 (.int .i64 0) (top z n) 3).congr (fun c _ => rfl), (Below.refl _ _).alloc (Nat.le_refl _) _⟩
          case round =>
            obtain ⟨j, hj, rfl, hcn, hb2⟩ := hrel
            by_cases hlt : j < n
            · have hcell := (hb2.cell (p := ⟨w.heap.size, j, none⟩) hsz2).trans (hcl j hlt)
              by_cases hneg : z j < 0
              · go_wp2
                go_roundg (gk - 1)
                case measure => omega
                case rel => exact ⟨j + 1, by omega, by go_num, hcn.congr fun c _ => by rw [cnt_succ_ne z j c (by omega)], hb2⟩
              · obtain ⟨c, hcj⟩ : ∃ c : Nat, z j = c := ⟨(z j).toNat, by omega⟩
                have hct : c < top z n := by have := lt_top z n j hlt; omega
                have hold := hcn.cell hct
                have hfro := hcn.frozen c
                have hcl' := cnt_le z j c
                go_wp2
                go_roundg (gk - 1)
                case measure => omega
                case rel => exact ⟨j + 1, by omega, by go_num, (hcn.set c _).congr fun i _ => by
                  by_cases hi : i = c
                  · subst hi
                    rw [if_pos rfl]
                    show _ = Value.int IntKind.i64 ((cnt z j i + if z j = (i : Int) then 1 else 0 : Nat) : Int)
                    rw [if_pos hcj]; rfl
                  · rw [if_neg hi, cnt_succ_ne z j i (by omega)], hb2.setCell (Nat.le_refl _) _⟩
            · obtain rfl : n = j := by omega
              rename World => w3
              have hev := rowIs_below hS.ev hb2
              have hda := rowIs_below hS.da hb2
              have hfr := rowIs_below hS.fr hb2
              have htl := rowIs_below hS.tl hb2
              have hcl3 : ∀ t, t < n → w3.cell? ⟨w.heap.size, t, none⟩ = some (.int .i64 (z t)) := fun t ht => (hb2.cell (p := ⟨w.heap.size, t, none⟩) hsz2).trans (hcl t ht)
              clear hcl
              go_wp2
              -- 'every', bit by bit
              go_loopg [19] (W * 64) (fun k i w' => ∃ (j : Nat), j + k = W * 64 ∧ i = .int .i64 j ∧ w3 = w')
              case atStart => exact ⟨0, by omega, rfl, rfl⟩
              case round =>
                obtain ⟨j, hj, rfl, rfl⟩ := hrel
                by_cases hlt : j < W * 64
                · have hjW : j / 64 < W := by omega
                  obtain ⟨e, He⟩ : ∃ e : Nat, Hid (e = word (fun i => decide (i < n) && decide (z i < 0)) (j / 64)) := ⟨_, rfl⟩
                  have hel : e < 18446744073709551616 := by rw [He.out]; exact word_lt _ _
                  have ce : w3.cell? ⟨E, j / 64, none⟩ = some (.int .u64 (e : Int)) := by rw [He.out]; exact hev.cell hjW
                  have hbt := bit_test e (j % 64) hel
                  have htb : e.testBit (j % 64) = (decide (j < n) && decide (z j < 0)) := by rw [He.out]; exact testBit_word _ j
                  rw [htb] at hbt
                  clear htb
                  by_cases hjn : j < n
                  · have hcell := hcl3 j hjn
                    by_cases hneg : z j < 0
                    · have hbt' : bits .and .u64 ((e : Int) / 2 ^ (j % 64)) 1 = 1 := by simpa [hjn, hneg] using hbt
                      clear hbt
                      go_wp2
                      go_roundg (gk - 1)
                      case measure => omega
                      case rel => exact ⟨j + 1, by omega, by go_num, rfl⟩
                    · have hbt' : bits .and .u64 ((e : Int) / 2 ^ (j % 64)) 1 = 0 := by simpa [hjn, hneg] using hbt
                      clear hbt
                      go_wp2
                      go_roundg (gk - 1)
                      case measure => omega
                      case rel => exact ⟨j + 1, by omega, by go_num, rfl⟩
                  · have hbt' : bits .and .u64 ((e : Int) / 2 ^ (j % 64)) 1 = 0 := by simpa [hjn] using hbt
                    have hjd : decide ((j : Int) < (n : Int)) = false := by simp; omega
                    clear hbt
                    go_wp2
                    go_roundg (gk - 1)
                    case measure => omega
                    case rel => exact ⟨j + 1, by omega, by go_num, rfl⟩
                · go_wp2
                  clear hlt hev
                  -- the layout of the classes
                  go_loopg [22, 23, 24] (top z n) (fun k u v i w' => ∃ (j U S : Nat), j + k = top z n ∧ i = .int .i64 j ∧ u = .int .i64 (U : Int) ∧ v = .int .i64 (S : Int) ∧ Hid (U = du z n W j * W) ∧ Hid (S = sp z n W j) ∧ Below w3.heap.size w3 w')
                  case atStart => exact ⟨0, 0, 0, by omega, rfl, rfl, rfl, (Nat.zero_mul W).symm, rfl, Below.refl _ _⟩
                  case round =>
                    obtain ⟨j, U, S, hj, rfl, rfl, rfl, HU, HS, hb3⟩ := hrel
                    by_cases hlt : j < top z n
                    · obtain ⟨q, Hq⟩ : ∃ q, Hid (q = cnt z n j) := ⟨_, rfl⟩
                      have cC : wr.cell? ⟨w2.heap.size, j, none⟩ = some (.int .i64 (q : Int)) := by rw [Hq.out]; exact (rowIs_below hcn hb3).cell hlt
                      have hdt := du_sp_le z n W (j + 1)
                      by_cases hd : W ≤ cnt z n j
                      · have hde : den z n W j = true := by simpa [den] using hd
                        have hq : W ≤ q := by rw [Hq.out]; exact hd
                        have hqd : decide ((W : Int) ≤ (q : Int)) = true := by simp; omega
                        have e1 : du z n W (j + 1) * W = U + W := by rw [du_succ z n W j hde, Nat.add_mul, Nat.one_mul, ← HU.out]
                        have e2 : sp z n W (j + 1) = S := by rw [sp_same z n W j hde, ← HS.out]
                        have hUW : U + W ≤ 65536 := by omega
                        have cA : wr.cell? ⟨A, j, none⟩ = some (.bool true) := by rw [(rowIs_below hda hb3).cell hlt, hde]
                        have cF : wr.cell? ⟨F, j, none⟩ = some (.int .i64 (U : Int)) := by rw [(rowIs_below hfr hb3).cell hlt]; simp only [frm, hde, if_true]; rw [HU.out]
                        have cT : wr.cell? ⟨T, j, none⟩ = some (.int .i64 ((U : Int) + (W : Int))) := by rw [(rowIs_below htl hb3).cell hlt]; simp only [til, hde, if_true]; rw [← HU.out]; rfl
                        have HE : Hid (U + W = du z n W (j + 1) * W ∧ S = sp z n W (j + 1)) := ⟨e1.symm, e2.symm⟩
                        clear e1 e2 hde hd hdt
                        go_wp2
                        go_quiet (fail)
                        go_wp2
                        go_roundg (gk - 1)
                        case measure => omega
                        case rel => exact ⟨j + 1, U + W, S, by omega, by go_num, by go_num, rfl, HE.out.1, HE.out.2, below_drewN hb3 _⟩
                      · have hde : den z n W j = false := by simpa [den] using hd
                        have hq : q < W := by rw [Hq.out]; omega
                        have hqd : decide ((W : Int) ≤ (q : Int)) = false := by simp; omega
                        have e1 : du z n W (j + 1) * W = U := by rw [du_same z n W j hde, ← HU.out]
                        have e2 : sp z n W (j + 1) = S + q := by rw [sp_succ z n W j hde, ← HS.out, Hq.out]
                        have hSq : S + q ≤ 65536 := by omega
                        have cA : wr.cell? ⟨A, j, none⟩ = some (.bool false) := by rw [(rowIs_below hda hb3).cell hlt, hde]
                        have cF : wr.cell? ⟨F, j, none⟩ = some (.int .i64 (S : Int)) := by rw [(rowIs_below hfr hb3).cell hlt]; simp [frm, hde]; rw [HS.out]
                        have cT : wr.cell? ⟨T, j, none⟩ = some (.int .i64 ((S : Int) + (q : Int))) := by rw [(rowIs_below htl hb3).cell hlt]; simp [til, hde]; rw [HS.out, Hq.out]
                        have HE : Hid (U = du z n W (j + 1) * W ∧ S + q = sp z n W (j + 1)) := ⟨e1.symm, e2.symm⟩
                        clear e1 e2 hde hd hdt
                        go_wp2
                        go_quiet (fail)
                        go_wp2
                        go_quiet (fail)
                        go_wp2
                        go_roundg (gk - 1)
                        case measure => omega
                        case rel => exact ⟨j + 1, U, S + q, by omega, by go_num, rfl, by go_num, HE.out.1, HE.out.2, below_drewN hb3 _⟩
                    · obtain rfl : top z n = j := by omega
                      obtain ⟨fd, hdn, hfd⟩ := hS.dn
                      obtain ⟨ad, cd, rfl⟩ := hdn.shape
                      obtain ⟨fs, hsp, hfs⟩ := hS.spr
                      obtain rfl := HU.out
                      obtain rfl := HS.out
                      have hdt := du_sp_le z n W (top z n)
                      clear HU HS
                      go_wp2
                      rename World => w5
                      have hb5 : Below w2.heap.size w2 w5 := hb2.trans (hb3.mono (by have := hb2.size; omega))
                      have hda5 := rowIs_below hda hb3
                      have hfr5 := rowIs_below hfr hb3
                      have htl5 := rowIs_below htl hb3
                      have hcn5 := rowIs_below hcn hb3
                      have hsp5 := rowIs_below hsp hb5
                      have hdn5 : Own w5 w1.heap.size 26 (.slice ad (du z n W (top z n) * W) cd) (du z n W (top z n) * W) (fun x => .int .u64 (fd x)) := hdn.kept (row := none) ⟨hb5.os, hb5.tape, hb5.output, hb5.size, fun k hk _ => hb5.block k hk⟩ (by cases ad <;> simp [Value.ownBlock])
                      have hcl5 : ∀ t, t < n → w5.cell? ⟨w.heap.size, t, none⟩ = some (.int .i64 (z t)) := fun t ht => (hb3.cell (p := ⟨w.heap.size, t, none⟩) (by show w.heap.size < w3.heap.size; have := hb2.size; omega)).trans (hcl3 t ht)
                      have HCL : Hid (∀ t, t < n → w5.cell? ⟨w.heap.size, t, none⟩ = some (.int .i64 (z t))) := hcl5
                      have HFD : Hid (∀ q, q < top z n → den z n W q = true → ∀ x, x < W → fd (du z n W q * W + x) = word (fun j => decide (j < n) && decide (z j = (q : Int))) x) := hfd
                      have HFS : Hid (∀ q, q < top z n → den z n W q = false → ∀ r, r < cnt z n q → fs (sp z n W q + r) < n ∧ z (fs (sp z n W q + r)) = q ∧ cnt z (fs (sp z n W q + r)) q = r) := hfs
                      clear hda hfr htl hcn hsp hdn hcl3 hcl5 hfd hfs hz
                      have hend : Below w.heap.size w w5 := hbel2.trans (hb5.mono (by omega))
                      -- each class, decoded
                      go_loopg [25] (top z n) (fun k i w' => ∃ (j : Nat), j + k = top z n ∧ i = .int .i64 j ∧ w5 = w')
                      case atStart => exact ⟨0, by omega, rfl, rfl⟩
                      case round =>
                        obtain ⟨j, hj, rfl, rfl⟩ := hrel
                        by_cases hlt : j < top z n
                        · obtain ⟨q, Hq⟩ : ∃ q, Hid (q = cnt z n j) := ⟨_, rfl⟩
                          have cC : w5.cell? ⟨w2.heap.size, j, none⟩ = some (.int .i64 (q : Int)) := by rw [Hq.out]; exact hcn5.cell hlt
                          by_cases hd : W ≤ cnt z n j
                          · have hde : den z n W j = true := by simpa [den] using hd
                            have hdl := du_lt z n W hlt hde
                            have hdm := Nat.mul_le_mul_right W hdl
                            rw [Nat.succ_mul] at hdm
                            obtain ⟨D, cd', heq, hD1, hD2⟩ := hdn5.some (by omega)
                            injection heq with e1 e2 e3
                            subst e1; subst e3
                            obtain ⟨U, HU⟩ : ∃ U, Hid (U = du z n W j * W) := ⟨_, rfl⟩
                            have cA : w5.cell? ⟨A, j, none⟩ = some (.bool true) := by rw [hda5.cell hlt, hde]
                            have cF : w5.cell? ⟨F, j, none⟩ = some (.int .i64 (U : Int)) := by rw [hfr5.cell hlt]; simp only [frm, hde, if_true]; rw [HU.out]
                            have hUN : U + W ≤ du z n W (top z n) * W := by rw [HU.out]; omega
                            have cD : ∀ x, x < W → w5.cell? ⟨D, U + x, none⟩ = some (.int .u64 ((word (fun i => decide (i < n) && decide (z i = (j : Int))) x : Nat) : Int)) := by
                              intro x hx
                              rw [hdn5.cell (by omega), HU.out, HFD.out j hlt hde x hx]
                            have HCD : Hid (∀ x, x < W → w5.cell? ⟨D, U + x, none⟩ = some (.int .u64 ((word (fun i => decide (i < n) && decide (z i = (j : Int))) x : Nat) : Int))) := cD
                            clear cD
                            generalize hNN : du z n W (top z n) * W = N at *
                            clear hde hd hdl hdm hNN
                            go_wp2
                            go_loopg [26, 27] (W * 64) (fun k g i w' => ∃ (t G : Nat), t + k = W * 64 ∧ i = .int .i64 t ∧ g = .int .i64 (G : Int) ∧ Hid (G = cnt z (min t n) j) ∧ w5 = w')
                            case atStart => exact ⟨0, 0, by omega, rfl, rfl, by rw [Nat.zero_min]; rfl, rfl⟩
                            case round =>
                              obtain ⟨t, G, ht, rfl, rfl, HG, rfl⟩ := hrel
                              have hGl : G ≤ 65536 := by rw [HG.out]; have := cnt_le z (min t n) j; omega
                              by_cases htw : t < W * 64
                              · have htW : t / 64 < W := by omega
                                obtain ⟨e, He⟩ : ∃ e : Nat, Hid (e = word (fun i => decide (i < n) && decide (z i = (j : Int))) (t / 64)) := ⟨_, rfl⟩
                                have hel : e < 18446744073709551616 := by rw [He.out]; exact word_lt _ _
                                have ce : w5.cell? ⟨D, U + t / 64, none⟩ = some (.int .u64 (e : Int)) := by rw [He.out]; exact HCD.out _ htW
                                have hbt := bit_test e (t % 64) hel
                                have htb : e.testBit (t % 64) = (decide (t < n) && decide (z t = (j : Int))) := by rw [He.out]; exact testBit_word _ t
                                rw [htb] at hbt
                                clear htb
                                by_cases htn : t < n
                                · have hcell := HCL.out t htn
                                  by_cases hzt : z t = (j : Int)
                                  · have hbt' : bits .and .u64 ((e : Int) / 2 ^ (t % 64)) 1 = 1 := by simpa [htn, hzt] using hbt
                                    have HG' : Hid (G + 1 = cnt z (min (t + 1) n) j) := by unfold Hid; rw [cnt_min_hit z n t j htn hzt, HG.out]
                                    clear hbt
                                    go_wp2
                                    go_roundg (gk - 1)
                                    case measure => omega
                                    case rel => exact ⟨t + 1, G + 1, by omega, by go_num, by go_num, HG', rfl⟩
                                  · have hbt' : bits .and .u64 ((e : Int) / 2 ^ (t % 64)) 1 = 0 := by simpa [htn, hzt] using hbt
                                    have HG' : Hid (G = cnt z (min (t + 1) n) j) := by unfold Hid; rw [cnt_min_miss z n t j htn hzt, HG.out]
                                    clear hbt
                                    go_wp2
                                    go_roundg (gk - 1)
                                    case measure => omega
                                    case rel => exact ⟨t + 1, G, by omega, by go_num, rfl, HG', rfl⟩
                                · have hbt' : bits .and .u64 ((e : Int) / 2 ^ (t % 64)) 1 = 0 := by simpa [htn] using hbt
                                  have HG' : Hid (G = cnt z (min (t + 1) n) j) := by unfold Hid; rw [cnt_min_past z n t j htn, HG.out]
                                  clear hbt
                                  go_wp2
                                  go_roundg (gk - 1)
                                  case measure => omega
                                  case rel => exact ⟨t + 1, G, by omega, by go_num, rfl, HG', rfl⟩
                              · obtain rfl : G = q := by rw [HG.out, Hq.out, Nat.min_eq_right (by have := HW.out; omega)]
                                go_wp2
                                go_roundg (top z n - (j + 1))
                                case measure => omega
                                case rel => exact ⟨j + 1, by omega, by go_num, rfl⟩
                          · have hde : den z n W j = false := by simpa [den] using hd
                            have hsl := sp_lt z n W hlt hde
                            obtain ⟨S, HS⟩ : ∃ S, Hid (S = sp z n W j) := ⟨_, rfl⟩
                            have cA : w5.cell? ⟨A, j, none⟩ = some (.bool false) := by rw [hda5.cell hlt, hde]
                            have cF : w5.cell? ⟨F, j, none⟩ = some (.int .i64 (S : Int)) := by rw [hfr5.cell hlt]; simp [frm, hde]; rw [HS.out]
                            have cT : w5.cell? ⟨T, j, none⟩ = some (.int .i64 ((S : Int) + (q : Int))) := by rw [htl5.cell hlt]; simp [til, hde]; rw [HS.out, Hq.out]
                            have hSN : S + q ≤ sp z n W (top z n) := by rw [HS.out, Hq.out]; exact hsl
                            have hN : sp z n W (top z n) ≤ 65536 := by omega
                            have HF : Hid (∀ r, r < q → fs (S + r) < n ∧ z (fs (S + r)) = j ∧ cnt z (fs (S + r)) j = r) := fun r hr => by rw [HS.out]; exact HFS.out j hlt hde r (by rw [← Hq.out]; exact hr)
                            have HQ : Hid (∀ x, x < sp z n W (top z n) → w5.cell? ⟨Q, x, none⟩ = some (.int .i64 (fs x : Int))) := fun x hx => hsp5.cell hx
                            generalize hNN : sp z n W (top z n) = N at *
                            clear hde hd hsl hNN
                            go_wp2
                            go_loopg [26, 28, 29] q (fun k g v i w' => ∃ (r : Nat) (pv : Int), r + k = q ∧ i = .int .i64 ((S + r : Nat) : Int) ∧ g = .int .i64 (r : Int) ∧ v = .int .i64 pv ∧ Hid (∀ r', r ≤ r' → r' < q → pv < (fs (S + r') : Int)) ∧ w5 = w')
                            case atStart => exact ⟨0, -1, by omega, rfl, rfl, rfl, fun r' _ _ => by omega, rfl⟩
                            case round =>
                              obtain ⟨r, pv, hr, rfl, rfl, rfl, HP, rfl⟩ := hrel
                              obtain ⟨p, Hp⟩ : ∃ p, Hid (p = S + r) := ⟨_, rfl⟩
                              rw [← Hp.out]
                              by_cases hrq : r < q
                              · obtain ⟨x, Hx⟩ : ∃ x, Hid (x = fs p) := ⟨_, rfl⟩
                                obtain ⟨h1, h2, h3⟩ := HF.out r hrq
                                have hxn : x < n := by rw [Hx.out, Hp.out]; exact h1
                                have hpx : pv < (x : Int) := by rw [Hx.out, Hp.out]; exact HP.out r (Nat.le_refl _) hrq
                                have hpN : p < N := by rw [Hp.out]; omega
                                have hpq : p < S + q := by rw [Hp.out]; omega
                                have cQ : w5.cell? ⟨Q, p, none⟩ = some (.int .i64 (x : Int)) := by rw [Hx.out]; exact HQ.out p hpN
                                have cX : w5.cell? ⟨w.heap.size, x, none⟩ = some (.int .i64 (j : Int)) := by rw [HCL.out x hxn, Hx.out, Hp.out, h2]
                                have HP' : Hid (∀ r', r + 1 ≤ r' → r' < q → (x : Int) < (fs (S + r') : Int)) := by
                                  intro r' h4 h5
                                  obtain ⟨_, _, h6⟩ := HF.out r' h5
                                  have := rank_lt z j (x := fs (S + r)) (y := fs (S + r')) (by rw [h3, h6]; omega)
                                  rw [Hx.out, Hp.out]; omega
                                have Hp' : Hid (((S + (r + 1) : Nat) : Int) = (p : Int) + 1) := by unfold Hid; rw [Hp.out]; omega
                                clear h1 h2 h3
                                go_wp2
                                go_roundg (gk - 1)
                                case measure => omega
                                case rel => exact ⟨r + 1, x, by omega, by rw [Hp'.out], by go_num, rfl, HP', rfl⟩
                              · obtain rfl : q = r := by omega
                                have hpq : p = S + q := Hp.out
                                have hpq1 : S + q ≤ p := by omega
                                clear hpq
                                go_wp2
                                go_roundg (top z n - (j + 1))
                                case measure => omega
                                case rel => exact ⟨j + 1, by omega, by go_num, rfl⟩
                        · go_wp2
                          go_ret
                          exact ⟨rfl, hend⟩

theorem decodes_walk (a : Option Addr) (len cap : Nat) (zs : List Int) (w : World) (h : IsRow .i64 w a len cap zs) :
    Calls Try.prog 3 #[.slice a len cap] w fun e w' => e = .returned (.bool true) ∧ Below w.heap.size w w' := by
  by_cases h1 : 65536 < len
  · exact decodes_long a len cap w h1
  · by_cases h2 : len = 0
    · subst h2; exact decodes_none a cap w
    · obtain ⟨b, off, rfl, hb, hc⟩ := row_open h (by omega)
      exact decodes_some b off len cap (fun t => zs.getD t 0) w (by omega) (by omega) hb hc

end Go.Proofs.Qxb6602406a
