/-
  Seat b6602406a: the walks of naivePeriod and period.
-/
import Derived.Test.Qxb6602406aAncSmall
namespace Go.Proofs.Qxb6602406a
open Go.RowKit

/-- The text's byte i. -/
def byt (s : ByteArray) (i : Nat) : Nat := if h : i < s.size then (s[i]'h).toNat else 0
theorem byt_at (s : ByteArray) (i : Nat) (h : i < s.size) : (s[i]'h).toNat = byt s i := by simp [byt, h]

theorem bytes_eq (a b : ByteArray) : a = b ↔ a.size = b.size ∧ ∀ i, i < a.size → byt a i = byt b i := by
  constructor
  · rintro rfl; exact ⟨rfl, fun _ _ => rfl⟩
  · rintro ⟨h1, h2⟩
    cases a with | mk a => cases b with | mk b =>
    congr 1
    apply Array.ext
    · exact h1
    · intro i hi hi'
      have := h2 i hi
      rw [← byt_at ⟨a⟩ i hi, ← byt_at ⟨b⟩ i hi'] at this
      exact UInt8.toNat_inj.1 this

theorem size_cut (s : ByteArray) (a b : Nat) (h : b ≤ s.size) : (s.extract a b).size = b - a := by rw [ByteArray.size_extract]; omega
theorem byt_cut (s : ByteArray) (a b i : Nat) (hb : b ≤ s.size) (h : i < b - a) : byt (s.extract a b) i = byt s (a + i) := by
  have h2 : i < (s.extract a b).size := by rw [size_cut s a b hb]; exact h
  rw [← byt_at s (a + i) (by omega), ← byt_at (s.extract a b) i h2, ByteArray.getElem_extract]

theorem cut_eq (x : ByteArray) (p : Nat) (hp : p ≤ x.size) : eqb (x.extract p x.size) (x.extract 0 (x.size - p)) = true ↔ IsP (byt x) x.size p := by
  rw [eqb_iff, bytes_eq, size_cut x p x.size (Nat.le_refl _), size_cut x 0 (x.size - p) (by omega)]
  constructor
  · rintro ⟨_, h⟩ t ht
    have := h t (by omega)
    rw [byt_cut x p x.size t (Nat.le_refl _) (by omega), byt_cut x 0 (x.size - p) t (by omega) (by omega), Nat.zero_add] at this
    rw [← this, Nat.add_comm]
  · intro h
    refine ⟨by omega, fun t ht => ?_⟩
    rw [byt_cut x p x.size t (Nat.le_refl _) (by omega), byt_cut x 0 (x.size - p) t (by omega) (by omega), Nat.zero_add, h t (by omega), Nat.add_comm]

set_option maxRecDepth 100000 in
theorem naive_any (x : ByteArray) (w : World) (h1 : 1 ≤ x.size) (h2 : x.size ≤ 1048576) :
    Calls Try.prog 29 #[.string x] w fun e w' => e = .returned (.int .i64 (per (byt x) x.size : Int)) ∧ ∃ k, w' = w.drewN k := by
  go_enter Try.func29, Try.ntmps29
  go_wp2
  go_loopg [3] x.size (fun k i w' => ∃ (p n : Nat), p + k = x.size + 1 ∧ 1 ≤ p ∧ p ≤ x.size ∧ i = .int .i64 p ∧ Hid (∀ q, 1 ≤ q → q < p → ¬ IsP (byt x) x.size q) ∧ w' = w.drewN n)
  case atStart => exact ⟨1, 0, by omega, by omega, by omega, rfl, (fun q h1 h2 => by omega), rfl⟩
  case round =>
    obtain ⟨p, n, hp, hp1, hp2, rfl, HP, rfl⟩ := hrel
    by_cases hlt : p < x.size
    · by_cases hq : eqb (x.extract p x.size) (x.extract 0 (x.size - p)) = true
      · have hq' : ((x.extract p x.size).toList == (x.extract 0 (x.size - p)).toList) = true := hq
        have HR : Hid (per (byt x) x.size = p) := per_eq _ _ _ h1 hp1 ((cut_eq x p hp2).1 hq) HP.out
        clear hq
        go_wp2
        go_quiet (fail)
        go_wp2
        go_ret
        exact ⟨ret_int (by rw [HR.out]), n + nq, by simp⟩
      · have hq' : ((x.extract p x.size).toList == (x.extract 0 (x.size - p)).toList) = false := by simpa [eqb] using hq
        have HP' : Hid (∀ q, 1 ≤ q → q < p + 1 → ¬ IsP (byt x) x.size q) := fun q h3 h4 => by
          by_cases e : q = p
          · subst e; rw [← cut_eq x q hp2]; exact hq
          · exact HP.out q h3 (by omega)
        clear hq
        go_wp2
        go_quiet (fail)
        go_wp2
        go_roundg (gk - 1)
        case measure => omega
        case rel => exact ⟨p + 1, _, by omega, by omega, by omega, by go_num, HP', rfl⟩
    · obtain rfl : x.size = p := by omega
      have HR : Hid (per (byt x) x.size = x.size) := per_eq _ _ _ h1 hp1 (fun t ht => by omega) HP.out
      go_wp2
      go_ret
      exact ⟨ret_int (by rw [HR.out]), _, rfl⟩

/-- What the outer loop holds. -/
def PerAt (x : ByteArray) (w w' : World) (k : Nat) (v : Value) : Prop :=
  ∃ (j : Nat) (bd : Nat → Nat), j + k = x.size + 1 ∧ 1 ≤ j ∧ j ≤ x.size ∧ v = .int .i64 j ∧ Hid (∀ t, t < j → LB (byt x) t (bd t)) ∧ w'.rowIs w.heap.size 3 x.size (fun t => .int .i64 (bd t : Int)) ∧ Below w.heap.size w w'

theorem per_step {x : ByteArray} {w w1 : World} {i u : Nat} {bd : Nat → Nat} {v : Value} (hlt : i + 1 < x.size) (HB : Hid (∀ t, t < i + 1 → LB (byt x) t (bd t))) (hrow : w1.rowIs w.heap.size 3 x.size (fun t => .int .i64 (bd t : Int))) (hbel : Below w.heap.size w w1)
    (hu : LB (byt x) (i + 1) u) (N : Nat) (hv : v = .int .i64 ((i : Int) + 1 + 1)) : PerAt x w ((w1.setCell ⟨w.heap.size, i + 1, none⟩ (.int .i64 (u : Int))).drewN N) (x.size - (i + 1)) v := by
  refine ⟨i + 2, fun t => if t = i + 1 then u else bd t, by omega, by omega, by omega, by rw [hv]; go_num, fun t ht => ?_, (hrow.set (i + 1) (.int .i64 (u : Int))).congr fun t _ => ?_, below_drewN (hbel.setCell (Nat.le_refl _) _) N⟩
  · show LB (byt x) t (if t = i + 1 then u else bd t)
    by_cases e : t = i + 1
    · subst e; rw [if_pos rfl]; exact hu
    · rw [if_neg e]; exact HB.out t (by omega)
  · show (if t = i + 1 then Value.int .i64 (u : Int) else Value.int .i64 (bd t : Int)) = Value.int .i64 ((if t = i + 1 then u else bd t : Nat) : Int)
    by_cases e : t = i + 1
    · rw [if_pos e, if_pos e]
    · rw [if_neg e, if_neg e]

set_option maxRecDepth 100000 in
set_option maxHeartbeats 1000000 in
theorem period_any (x : ByteArray) (w : World) (h1 : 1 ≤ x.size) (h2 : x.size ≤ 1048576) :
    Calls Try.prog 39 #[.string x] w fun e w' => e = .returned (.int .i64 (per (byt x) x.size : Int)) ∧ Below w.heap.size w w' := by
  have hmk := mk_row (P := Try.prog) 22 3 (.int .i64 0) 8 Try.underlying22 Try.info3 rfl (x.size : Int) x.size rfl (by omega) (by omega)
  go_enter Try.func39, Try.ntmps39
  go_wp2
  clear hmk
  go_loopg [4] x.size (fun k i w' => PerAt x w w' k i)
  case atStart => exact ⟨1, fun _ => 0, by omega, by omega, by omega, rfl, (fun t ht => by (obtain rfl : t = 0 := by omega); exact lb_zero _), World.rowIs_made w (.int .i64 0) x.size 3, (Below.refl _ _).alloc (Nat.le_refl _) _⟩
  case round =>
    obtain ⟨j, bd, hj, hj1, hj2, rfl, HB, hrow, hbel⟩ := hrel
    by_cases hlt : j < x.size
    · obtain ⟨i, rfl⟩ : ∃ i, j = i + 1 := ⟨j - 1, by omega⟩
      have cb := hrow.cell (i := i) (by omega)
      have hbi := (HB.out i (by omega)).1.1
      rename World => w1
      go_wp2
      go_loopg [5] (bd i + 1) (fun k v w' => ∃ (q n : Nat), v = .int .i64 q ∧ k = q + 1 ∧ q ≤ i ∧ Hid (Cand (byt x) i q) ∧ w' = w1.drewN n)
      case atStart => exact ⟨bd i, 0, rfl, rfl, hbi, cand_start _ _ _ (HB.out i (by omega)), rfl⟩
      case round =>
        obtain ⟨q, n, rfl, hk, hqi, HC, rfl⟩ := hrel
        have hqx : q < x.size := by omega
        have HX : Hid ((x[i + 1]'hlt).toNat = byt x (i + 1) ∧ (x[q]'hqx).toNat = byt x q) := ⟨byt_at x (i + 1) hlt, byt_at x q hqx⟩
        have hold := hrow.cell (i := i + 1) hlt
        have hfro := hrow.frozen (i + 1)
        have hltI : (i : Int) + 1 < (x.size : Int) := by omega
        have hqI : (q : Int) < (x.size : Int) := by omega
        have h0I : (0 : Int) ≤ (i : Int) + 1 := by omega
        have htI : ((i : Int) + 1).toNat = i + 1 := by omega
        by_cases he : (x[i + 1]'hlt).toNat = (x[q]'hqx).toNat
        · have hne : (((x[i + 1]'hlt).toNat : Int) != ((x[q]'hqx).toNat : Int)) = false := by simp [he]
          have heq : (((x[i + 1]'hlt).toNat : Int) == ((x[q]'hqx).toNat : Int)) = true := by simp [he]
          have HU : Hid (LB (byt x) (i + 1) (q + 1)) := cand_hit _ _ _ HC.out (by rw [← HX.out.1, ← HX.out.2]; exact he)
          clear he
          by_cases hq0 : q = 0
          · have hd : decide (0 < q) = false := by simp; omega
            clear hq0
            go_wp2
            go_quiet (fail)
            go_wp2
            go_quiet (fail)
            go_wp2
            go_roundg (x.size - (i + 1))
            case measure => omega
            case rel => exact per_step hlt HB hrow hbel HU.out _ rfl
          · have hd : decide (0 < q) = true := by simp; omega
            have hq1 : 0 < q := by omega
            go_wp2
            go_quiet (fail)
            go_wp2
            go_quiet (fail)
            go_wp2
            go_roundg (x.size - (i + 1))
            case measure => omega
            case rel => exact per_step hlt HB hrow hbel HU.out _ rfl
        · have hne : (((x[i + 1]'hlt).toNat : Int) != ((x[q]'hqx).toNat : Int)) = true := by simp; omega
          have heq : (((x[i + 1]'hlt).toNat : Int) == ((x[q]'hqx).toNat : Int)) = false := by rw [beq_eq_false_iff_ne]; omega
          have hne' : byt x (i + 1) ≠ byt x q := by rw [← HX.out.1, ← HX.out.2]; exact he
          by_cases hq0 : q = 0
          · have hd : decide (0 < q) = false := by simp; omega
            have HU : Hid (LB (byt x) (i + 1) q) := by
              have hc := HC.out
              rw [hq0] at hc hne'
              unfold Hid
              rw [hq0]
              exact cand_miss _ _ hc hne'
            clear hq0 he hne'
            go_wp2
            go_quiet (fail)
            go_wp2
            go_quiet (fail)
            go_wp2
            go_roundg (x.size - (i + 1))
            case measure => omega
            case rel => exact per_step hlt HB hrow hbel HU.out _ rfl
          · have hd : decide (0 < q) = true := by simp; omega
            have hq1 : 0 < q := by omega
            have hlb := HB.out (q - 1) (by omega)
            have hbr := hlb.1.1
            have cr := hrow.cell (i := q - 1) (by omega)
            have HC' : Hid (Cand (byt x) i (bd (q - 1))) := by
              have hc := HC.out
              obtain ⟨r, hr⟩ : ∃ r, q = r + 1 := ⟨q - 1, by omega⟩
              subst hr
              exact cand_next _ _ _ _ hc hne' hlb
            clear he hne' hlb hq0
            go_wp2
            go_quiet (fail)
            go_wp2
            go_roundg (bd (q - 1) + 1)
            case measure => omega
            case rel => exact ⟨bd (q - 1), _, rfl, rfl, by omega, HC', rfl⟩
    · obtain rfl : x.size = j := by omega
      obtain ⟨i, hi⟩ : ∃ i, x.size = i + 1 := ⟨x.size - 1, by omega⟩
      have cb := hrow.cell (i := x.size - 1) (by omega)
      have hlb := HB.out (x.size - 1) (by omega)
      have hle := hlb.1.1
      have HR : Hid (((x.size : Nat) : Int) - (bd (x.size - 1) : Int) = (per (byt x) x.size : Int)) := by
        unfold Hid
        have := per_border (byt x) (x.size - 1) _ hlb
        rw [show x.size - 1 + 1 = x.size by omega] at this
        rw [this]; omega
      clear hi hlb
      go_wp2
      go_ret
      exact ⟨ret_int HR.out, hbel⟩

end Go.Proofs.Qxb6602406a
