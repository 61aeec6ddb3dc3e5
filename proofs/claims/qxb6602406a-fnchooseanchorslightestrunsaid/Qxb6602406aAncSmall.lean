/-
  Seat b6602406a: the walks of textBytes, holdsRun, checksOf, naivePeriod, period.
-/
import Derived.Test.Qxb6602406aAncSplit
import Derived.Test.Qxb6602406aAncMath
namespace Go.Proofs.Qxb6602406a
open Go.RowKit

/-- The fewest bytes of the first k pieces. -/
def szUp (S : Nat → ByteArray) : Nat → Nat
  | 0 => 0
  | k + 1 => szUp S k + if (S k).size = 0 then 1 else (S k).size
theorem szUp_mono (S : Nat → ByteArray) {j k : Nat} (h : j ≤ k) : szUp S j ≤ szUp S k := by
  induction k with
  | zero => have : j = 0 := by omega
            subst this; exact Nat.le_refl _
  | succ k ih =>
    by_cases e : j = k + 1
    · subst e; exact Nat.le_refl _
    · have := ih (by omega); simp only [szUp]; omega
def eqb (a b : ByteArray) : Bool := a.toList == b.toList
theorem eqb_iff (a b : ByteArray) : eqb a b = true ↔ a = b := by
  unfold eqb
  rw [beq_iff_eq]
  constructor
  · intro h
    rw [ByteArray.toList_eq, ByteArray.toList_eq] at h
    cases a; cases b
    congr 1
    exact Array.toList_inj.1 h
  · rintro rfl; rfl
/-- Does one of the first k pieces equal x? -/
def has (S : Nat → ByteArray) (x : ByteArray) : Nat → Bool
  | 0 => false
  | k + 1 => has S x k || eqb (S k) x
theorem has_iff (S : Nat → ByteArray) (x : ByteArray) (m : Nat) : has S x m = true ↔ ∃ k, k < m ∧ S k = x := by
  induction m with
  | zero => simp [has]
  | succ m ih =>
    rw [has, Bool.or_eq_true, ih, eqb_iff]
    constructor
    · rintro (⟨k, h1, h2⟩ | h)
      · exact ⟨k, by omega, h2⟩
      · exact ⟨m, by omega, h⟩
    · rintro ⟨k, h1, h2⟩
      by_cases e : k = m
      · subst e; exact .inr h2
      · exact .inl ⟨k, by omega, h2⟩
/-- The checks that run x costs in the first j texts. -/
def chkUp (D : Desc) (x : ByteArray) : Nat → Nat
  | 0 => 0
  | j + 1 => chkUp D x j + if (!D.ex j && has (D.S j) x (D.m j)) = true then 1 + szUp (D.S j) (D.m j) - x.size else 0

theorem szUp_le (D : Desc) (i k : Nat) : szUp (D.S i) k ≤ k + lensUp D i k := by
  induction k with
  | zero => exact Nat.le_refl _
  | succ k ih => simp only [szUp, lensUp]; split <;> omega
theorem sz_ge (S : Nat → ByteArray) (m k : Nat) (h : k < m) : (S k).size ≤ szUp S m := by
  have h1 := szUp_mono S (show k + 1 ≤ m by omega)
  have h2 : (S k).size ≤ szUp S (k + 1) := by simp only [szUp]; split <;> omega
  omega
theorem cost_mono (D : Desc) {j n : Nat} (h : j ≤ n) : cost D j ≤ cost D n := by
  induction n with
  | zero => have : j = 0 := by omega
            subst this; exact Nat.le_refl _
  | succ n ih =>
    by_cases e : j = n + 1
    · subst e; exact Nat.le_refl _
    · have := ih (by omega); simp only [cost]; omega
theorem chk_le (D : Desc) (x : ByteArray) (j : Nat) : chkUp D x j ≤ cost D j := by
  induction j with
  | zero => exact Nat.le_refl _
  | succ j ih =>
    have := szUp_le D j (D.m j)
    simp only [chkUp, cost]
    split <;> omega
/-- What the bound on the whole says of one text. -/
theorem cost_one (D : Desc) (n i : Nat) (h : cost D n ≤ 65536) (hi : i < n) : D.m i ≤ 4096 ∧ lensUp D i (D.m i) ≤ 65536 ∧ szUp (D.S i) (D.m i) ≤ 65536 ∧ n ≤ 1024 := by
  have h1 := cost_mono D (show i + 1 ≤ n by omega)
  have h2 := szUp_le D i (D.m i)
  have h3 : ∀ k, 64 * k ≤ cost D k := by
    intro k
    induction k with
    | zero => exact Nat.le_refl _
    | succ k ih => simp only [cost]; omega
  have h4 := h3 n
  simp only [cost] at h1
  omega

theorem lensUp_size (D : Desc) (i m k : Nat) (h : k < m) : (D.S i k).size ≤ lensUp D i m := by
  induction m with
  | zero => omega
  | succ m ih =>
    simp only [lensUp]
    by_cases e : k = m
    · subst e; omega
    · have := ih (by omega); omega

theorem ret_int {k : IntKind} {a b : Int} (h : a = b) : Ending.returned (.int k a) = .returned (.int k b) := by rw [h]
theorem ret_bool {a b : Bool} (h : a = b) : Ending.returned (.bool a) = .returned (.bool b) := by rw [h]

set_option maxRecDepth 100000 in
theorem textBytes_any (A : Option Addr) (m c : Nat) (S : Nat → ByteArray) (w : World) (hP : Pcs w A m S) (hm : m ≤ 1048576) (hb : szUp S m ≤ 1048576) :
    Calls Try.prog 27 #[.slice A m c] w fun e w' => e = .returned (.int .i64 (szUp S m : Int)) ∧ w = w' := by
  go_enter Try.func27, Try.ntmps27
  go_wp2
  go_loopg [3, 4] m (fun k z i w' => ∃ (j Z : Nat), j + k = m ∧ i = .int .i64 j ∧ z = .int .i64 Z ∧ Hid (Z = szUp S j) ∧ w = w')
  case atStart => exact ⟨0, 0, by omega, rfl, rfl, rfl, rfl⟩
  case round =>
    obtain ⟨j, Z, hj, rfl, rfl, HZ, rfl⟩ := hrel
    by_cases hlt : j < m
    · obtain ⟨b, o, rfl, hpc⟩ := hP.row (by omega)
      have cj := hpc j hlt
      have hz1 : Z ≤ 1048576 := by rw [HZ.out]; have := szUp_mono S (show j ≤ m by omega); omega
      have hsz := sz_ge S m j hlt
      have hsz2 : (S j).size ≤ 1048576 := by omega
      have HN : Hid (szUp S (j + 1) = Z + if (S j).size = 0 then 1 else (S j).size) := by unfold Hid; rw [HZ.out]; rfl
      clear hpc hP hsz
      by_cases h0 : (S j).size = 0
      · have hq : (((S j).size : Int) == 0) = true := by simp [h0]
        go_wp2
        go_roundg (gk - 1)
        case measure => omega
        case rel => exact ⟨j + 1, Z + 1, by omega, by go_num, by go_num, by rw [HN.out, if_pos h0]; rfl, rfl⟩
      · have hq : (((S j).size : Int) == 0) = false := by rw [beq_eq_false_iff_ne]; omega
        go_wp2
        go_roundg (gk - 1)
        case measure => omega
        case rel => exact ⟨j + 1, Z + (S j).size, by omega, by go_num, by go_num, by rw [HN.out, if_neg h0]; rfl, rfl⟩
    · obtain rfl : m = j := by omega
      go_wp2
      go_ret
      exact ⟨ret_int (by rw [HZ.out]), rfl⟩

set_option maxRecDepth 100000 in
theorem holdsRun_any (A : Option Addr) (m c : Nat) (S : Nat → ByteArray) (x : ByteArray) (w : World) (hP : Pcs w A m S) (hm : m ≤ 1048576) :
    Calls Try.prog 36 #[.slice A m c, .string x] w fun e w' => e = .returned (.bool (has S x m)) ∧ w = w' := by
  go_enter Try.func36, Try.ntmps36
  go_wp2
  go_loopg [5] m (fun k i w' => ∃ (j : Nat), j + k = m ∧ i = .int .i64 j ∧ Hid (has S x j = false) ∧ w = w')
  case atStart => exact ⟨0, by omega, rfl, rfl, rfl⟩
  case round =>
    obtain ⟨j, hj, rfl, HZ, rfl⟩ := hrel
    by_cases hlt : j < m
    · obtain ⟨b, o, rfl, hpc⟩ := hP.row (by omega)
      have cj := hpc j hlt
      clear hpc hP
      by_cases h0 : eqb (S j) x = true
      · have hq : ((S j).toList == x.toList) = true := h0
        have HR : Hid (has S x m = true) := (has_iff S x m).2 ⟨j, hlt, (eqb_iff _ _).1 h0⟩
        clear h0
        go_wp2
        go_ret
        exact ⟨ret_bool HR.out.symm, rfl⟩
      · have hq : ((S j).toList == x.toList) = false := by simpa [eqb] using h0
        have HN : Hid (has S x (j + 1) = false) := by unfold Hid; rw [has, HZ.out]; simpa using h0
        clear h0
        go_wp2
        go_roundg (gk - 1)
        case measure => omega
        case rel => exact ⟨j + 1, by omega, by go_num, HN, rfl⟩
    · obtain rfl : m = j := by omega
      go_wp2
      go_ret
      exact ⟨ret_bool HZ.out.symm, rfl⟩

set_option maxRecDepth 100000 in
theorem checksOf_any (ao : Option Addr) (n cap sb : Nat) (D : Desc) (x : ByteArray) (w : World) (hT : Texts w ao n D) (hC : cost D n ≤ 65536) (hS : w.rowIs sb 3 n (fun i => .int .i64 (szUp (D.S i) (D.m i) : Int))) (hx : x.size ≤ 65536) (hn : n ≤ 1048576) :
    Calls Try.prog 28 #[.slice ao n cap, .slice (some ⟨sb, 0, none⟩) n n, .string x] w fun e w' => e = .returned (.int .i64 (chkUp D x n : Int)) ∧ w = w' := by
  go_enter Try.func28, Try.ntmps28
  go_wp2
  go_loopg [7, 8] n (fun k z i w' => ∃ (j Z : Nat), j + k = n ∧ i = .int .i64 j ∧ z = .int .i64 Z ∧ Hid (Z = chkUp D x j) ∧ w = w')
  case atStart => exact ⟨0, 0, by omega, rfl, rfl, rfl, rfl⟩
  case round =>
    obtain ⟨j, Z, hj, rfl, rfl, HZ, rfl⟩ := hrel
    by_cases hlt : j < n
    · obtain ⟨b, o, rfl, hrow⟩ := hT.row (by omega)
      obtain ⟨A, c, c0, c1, c2, c3, c4, hA0, hP⟩ := hrow j hlt
      obtain ⟨hm1, hm2, hm3, hm4⟩ := cost_one D n j hC hlt
      have hz1 : Z ≤ 65536 := by rw [HZ.out]; have := chk_le D x j; have := cost_mono D (show j ≤ n by omega); omega
      obtain ⟨q, Hq⟩ : ∃ q, Hid (q = szUp (D.S j) (D.m j)) := ⟨_, rfl⟩
      have cs : w.cell? ⟨sb, j, none⟩ = some (.int .i64 (q : Int)) := by rw [Hq.out]; exact hS.cell hlt
      have hq1 : q ≤ 65536 := by rw [Hq.out]; exact hm3
      have HN : Hid (chkUp D x (j + 1) = Z + if (!D.ex j && has (D.S j) x (D.m j)) = true then 1 + q - x.size else 0) := by unfold Hid; rw [HZ.out, Hq.out]; rfl
      clear hT hrow hm2 hm3
      by_cases hex : D.ex j = true
      · rw [hex] at c1
        have HN' : Hid (chkUp D x (j + 1) = Z) := by unfold Hid; rw [HN.out]; simp [hex]
        clear hex
        go_wp2
        go_roundg (gk - 1)
        case measure => omega
        case rel => exact ⟨j + 1, Z, by omega, by go_num, rfl, by rw [HN'.out]; rfl, rfl⟩
      · have hex' : D.ex j = false := by simpa using hex
        rw [hex'] at c1
        by_cases hh : has (D.S j) x (D.m j) = true
        · have hxq : x.size ≤ q := by
            obtain ⟨k, h1, h2⟩ := (has_iff _ _ _).1 hh
            rw [Hq.out, ← h2]; exact sz_ge _ _ _ h1
          have HN' : Hid (chkUp D x (j + 1) = Z + (1 + q - x.size)) := by unfold Hid; rw [HN.out]; simp [hex', hh]
          have HH : Hid (has (D.S j) x (D.m j) = true) := hh
          clear hex hex' hh
          go_wp2_with (go_at_call 36; refine (holdsRun_any A (D.m j) c (D.S j) x w hP (by omega)).mono ?_; rw [HH.out]; rintro e w' ⟨rfl, rfl⟩)
          go_roundg (gk - 1)
          case measure => omega
          case rel => exact ⟨j + 1, Z + (1 + q - x.size), by omega, by go_num, by go_num, by rw [HN'.out]; rfl, rfl⟩
        · have hh' : has (D.S j) x (D.m j) = false := by simpa using hh
          have HN' : Hid (chkUp D x (j + 1) = Z) := by unfold Hid; rw [HN.out]; simp [hh']
          have HH : Hid (has (D.S j) x (D.m j) = false) := hh'
          clear hex hex' hh hh'
          go_wp2_with (go_at_call 36; refine (holdsRun_any A (D.m j) c (D.S j) x w hP (by omega)).mono ?_; rw [HH.out]; rintro e w' ⟨rfl, rfl⟩)
          go_roundg (gk - 1)
          case measure => omega
          case rel => exact ⟨j + 1, Z, by omega, by go_num, rfl, by rw [HN'.out]; rfl, rfl⟩
    · obtain rfl : n = j := by omega
      go_wp2
      go_ret
      exact ⟨ret_int (by rw [HZ.out]), rfl⟩

end Go.Proofs.Qxb6602406a
