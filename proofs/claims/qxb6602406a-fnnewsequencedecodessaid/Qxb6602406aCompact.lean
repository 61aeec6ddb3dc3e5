/-
  Seat b6602406a: the walk of FnNewSequenceCompact.
-/
import Derived.Test.Qxb6602406aZZ
import Derived.OpenShut
namespace Go.Proofs.Qxb6602406a
open Go.RowKit

theorem Seq9.drewN {w wr : World} {n W : Nat} {z : Nat → Int} {E A F T Q : Nat} {vd : Value} (h : Seq9 w wr n W z E A F T Q vd) (k : Nat) : Seq9 w (wr.drewN k) n W z E A F T Q vd :=
  ⟨h.ev, h.da, h.fr, h.tl, h.dn, h.spr, below_drewN h.bel k⟩

/-- ZZNewSequence's contract, its numbers by name. -/
theorem zzseqW (b n W lw : Nat) (lb : Int) (z : Nat → Int) (w : World) (HW : Hid (W = (n - 1) / 64 + 1)) (Hl : Hid (lw = (n - 1) / 64)) (Hb : Hid (lb = IntKind.u64.wrap (2 ^ ((n - 1) % 64)))) (h0 : 0 < n) (hn : n ≤ 65536) (hz : ∀ t, t < n → z t ≤ 65536) (hb : b < w.heap.size) (hc : ∀ t, t < n → w.cell? ⟨b, t, none⟩ = some (.int .i64 (z t))) :
    Calls Try.prog 12 #[.slice (some ⟨b, 0, none⟩) n n] w fun e w' => ∃ E A F T Q vd, e = .returned (.tuple #[.int .i64 (W : Int), .slice (some ⟨E, 0, none⟩) W W, .int .i64 (lw : Int), .int .u64 lb,
        .slice (some ⟨A, 0, none⟩) (top z n) (top z n), .slice (some ⟨F, 0, none⟩) (top z n) (top z n), .slice (some ⟨T, 0, none⟩) (top z n) (top z n), vd, .slice (some ⟨Q, 0, none⟩) (sp z n W (top z n)) (sp z n W (top z n))]) ∧ Seq9 w w' n W z E A F T Q vd := by
  obtain rfl := HW.out
  obtain rfl := Hl.out
  obtain rfl := Hb.out
  exact zzseq b n z w h0 hn hz hb hc

theorem du_64 (z : Nat → Int) (n : Nat) (h0 : 0 < n) (K : Nat) : du z n ((n - 1) / 64 + 1) K ≤ 64 := by
  have h := du_sp_le z n ((n - 1) / 64 + 1) K
  have hw : n ≤ 64 * ((n - 1) / 64 + 1) := by omega
  generalize (n - 1) / 64 + 1 = W at *
  by_cases hd : du z n W K ≤ 64
  · exact hd
  · have := Nat.mul_le_mul_right W (show 65 ≤ du z n W K by omega)
    omega

theorem til_frm (z : Nat → Int) (n W q : Nat) (h : den z n W q = false) : til z n W n q = frm z n W q + cnt z n q := by simp [til, frm, h]

set_option maxRecDepth 100000 in
theorem compact_long (a : Option Addr) (n cap : Nat) (w : World) (h : 65536 < n) :
    Calls Try.prog 4 #[.slice a n cap] w fun e w' => e = .returned (.bool true) ∧ Below w.heap.size w w' := by
  by_cases h1 : 1048576 < n
  · go_enter Try.func4, Try.ntmps4
    go_wp2_with (go_at_call 13; refine (guard13_no a n cap w h1).mono ?_; rintro e w' ⟨rfl, rfl⟩)
    go_ret
    exact ⟨rfl, Below.refl _ _⟩
  · go_enter Try.func4, Try.ntmps4
    go_wp2_with (go_at_call 13; refine (guard13 a n cap w (by omega)).mono ?_; rintro e w' ⟨rfl, rfl⟩)
    go_ret
    exact ⟨rfl, Below.refl _ _⟩

set_option maxRecDepth 100000 in
theorem compact_none (a : Option Addr) (cap : Nat) (w : World) :
    Calls Try.prog 4 #[.slice a 0 cap] w fun e w' => e = .returned (.bool true) ∧ Below w.heap.size w w' := by
  go_enter Try.func4, Try.ntmps4
  go_wp2_with (go_at_call 13; refine (guard13 a 0 cap w (by omega)).mono ?_; rintro e w' ⟨rfl, rfl⟩)
  go_ret
  exact ⟨rfl, Below.refl _ _⟩

set_option maxRecDepth 100000 in
set_option maxHeartbeats 1000000 in
theorem compact_some (b off n cap : Nat) (z : Nat → Int) (w : World) (h0 : 0 < n) (hn : n ≤ 65536) (hb : b < w.heap.size) (hc : ∀ t, t < n → w.cell? ⟨b, off + t, none⟩ = some (.int .i64 (z t))) :
    Calls Try.prog 4 #[.slice (some ⟨b, off, none⟩) n cap] w fun e w' => e = .returned (.bool true) ∧ Below w.heap.size w w' := by
  have hn0 : ((n : Int) == 0) = false := by simp; omega
  have hn1 : decide ((65536 : Int) < (n : Int)) = false := by simp; omega
  go_enter Try.func4, Try.ntmps4
  go_wp2_with (go_at_call 13; refine (guard13 _ n cap w (by omega)).mono ?_; rintro e w' ⟨rfl, rfl⟩)
  go_loopg [3] n (fun k i w' => ∃ (j : Nat), j + k = n ∧ i = .int .i64 j ∧ w = w' ∧ ∀ t, t < j → z t ≤ 65536)
  case atStart => exact ⟨0, by omega, rfl, rfl, fun t ht => by omega⟩
  case round =>
    obtain ⟨j, hj, rfl, rfl, hz⟩ := hrel
    by_cases hlt : j < n
    · have hcell := hc j hlt
      by_cases hbig : 65536 < z j
      · go_wp2
        go_ret
        exact ⟨rfl, Below.refl _ _⟩
      · go_wp2
        go_roundg (gk - 1)
        case measure => omega
        case rel => exact ⟨j + 1, by omega, by go_num, rfl, fun t ht => by
          by_cases e : t = j
          · subst e; omega
          · exact hz t (by omega)⟩
    · obtain rfl : n = j := by omega
      obtain ⟨W, HW⟩ : ∃ W, Hid (W = (n - 1) / 64 + 1) := ⟨_, rfl⟩
      obtain ⟨lw, Hl⟩ : ∃ lw, Hid (lw = (n - 1) / 64) := ⟨_, rfl⟩
      obtain ⟨lb, Hb⟩ : ∃ lb, Hid (lb = IntKind.u64.wrap (2 ^ ((n - 1) % 64))) := ⟨_, rfl⟩
      go_wp2_with (first | (go_at_call 11; refine (copy_any b off n cap z w h0 hn hb hc).mono ?_; rintro e w1 ⟨rfl, hrow, hbel, hsz⟩) | (go_at_call 12; refine (zzseqW w.heap.size n W lw lb z w1 HW Hl Hb h0 hn hz (by omega) (fun t ht => hrow.cell ht)).mono ?_; rintro e w2 ⟨E, A, F, T, Q, vd, rfl, hS⟩))
      have hd64 : du z n W (top z n) ≤ 64 := by rw [HW.out]; exact du_64 z n h0 (top z n)
      have hK := top_le z n n 65536 (by omega) hz
      have hlen := du_sp_le z n W (top z n)
      have hW1 : 1 ≤ W := by have := HW.out; omega
      have hW2 : W ≤ 1024 := by have := HW.out; omega
      clear hrow hc
      go_loopg [13, 14] (top z n) (fun k d i w' => ∃ (j : Nat), j + k = top z n ∧ i = .int .i64 j ∧ d = .int .i64 (du z n W j) ∧ Seq9 w1 w' n W z E A F T Q vd)
      case atStart => exact ⟨0, by omega, rfl, rfl, hS⟩
      case round =>
        clear hS
        obtain ⟨j, hj, rfl, rfl, hS⟩ := hrel
        by_cases hlt : j < top z n
        · have hdm := du_mono z n W (show j ≤ top z n by omega)
          have hda := hS.da.cell hlt
          by_cases hde : den z n W j = true
          · rw [hde] at hda
            have hdu := du_succ z n W j hde
            have HD : Hid (du z n W (j + 1) = du z n W j + 1) := hdu
            clear hde hdu
            go_wp2
            go_roundg (gk - 1)
            case measure => omega
            case rel => exact ⟨j + 1, by omega, by go_num, by rw [HD.out]; go_num, hS⟩
          · have hde' : den z n W j = false := by simpa using hde
            rw [hde'] at hda
            have hdu := du_same z n W j hde'
            have hcnt : cnt z n j < W := by simpa [den] using hde'
            have hfr := hS.fr.cell hlt
            have htl := hS.tl.cell hlt
            rw [til_frm z n W j hde'] at htl
            have hspm := sp_mono z n W (show j ≤ top z n by omega)
            have hfrl : frm z n W j ≤ 65536 := by simp [frm, hde']; omega
            have HD : Hid (du z n W (j + 1) = du z n W j) := hdu
            clear hde hde' hdu
            go_wp2
            go_quiet (fail)
            go_wp2
            go_roundg (gk - 1)
            case measure => omega
            case rel => exact ⟨j + 1, by omega, by go_num, by rw [HD.out], hS.drewN nq⟩
        · obtain rfl : top z n = j := by omega
          obtain ⟨ad, cd, rfl⟩ : ∃ ad cd, vd = .slice ad (du z n W (top z n) * W) cd := by
            obtain ⟨fd, hd, _⟩ := hS.dn
            exact hd.shape
          go_wp2
          go_ret
          exact ⟨congrArg (fun x => Ending.returned (Value.bool x)) (decide_eq_true (by exact_mod_cast hlen)), hbel.trans (hS.bel.mono (by omega))⟩

/-- WHAT THE WALK IS TOLD OF A SLICE OF INTEGERS THAT CAME IN. -/
def IsRow (k : IntKind) (w : World) (a : Option Addr) (len cap : Nat) (zs : List Int) : Prop :=
  (a = none ∧ len = 0 ∧ cap = 0 ∧ zs = []) ∨
  ∃ x, a = some x ∧ len ≤ cap ∧ cap ≤ maxLen ∧ zs.length = cap ∧ (∀ i, i < zs.length → w.cell? (x.add i) = some (.int k (zs.getD i 0))) ∧ ∀ n ∈ zs, (Lit.int k n).wf = true

theorem row_open {w : World} {a : Option Addr} {len cap : Nat} {zs : List Int} (h : IsRow .i64 w a len cap zs) (h0 : 0 < len) :
    ∃ b off, a = some ⟨b, off, none⟩ ∧ b < w.heap.size ∧ ∀ t, t < len → w.cell? ⟨b, off + t, none⟩ = some (.int .i64 (zs.getD t 0)) := by
  rcases h with ⟨_, h1, _⟩ | ⟨x, rfl, h1, h2, h3, h4, h5⟩
  · omega
  · obtain ⟨b, off, rfl, hc⟩ := ints_at h4 (by omega)
    exact ⟨b, off, rfl, World.block_lt_of_cell? w _ (hc 0 (by omega)), fun t ht => hc t (by omega)⟩

theorem compact_walk (a : Option Addr) (len cap : Nat) (zs : List Int) (w : World) (h : IsRow .i64 w a len cap zs) :
    Calls Try.prog 4 #[.slice a len cap] w fun e w' => e = .returned (.bool true) ∧ Below w.heap.size w w' := by
  by_cases h1 : 65536 < len
  · exact compact_long a len cap w h1
  · by_cases h2 : len = 0
    · subst h2; exact compact_none a cap w
    · obtain ⟨b, off, rfl, hb, hc⟩ := row_open h (by omega)
      exact compact_some b off len cap (fun t => zs.getD t 0) w (by omega) (by omega) hb hc

end Go.Proofs.Qxb6602406a
