/-
  Seat b6601656a: the walks of isDigit, shaped and the law FnShapedIsMaskedEquality.
-/
import Derived.Test.Qxb6601656aProg
import Derived.WalkKit
import Derived.WalkLawsBesides
import Derived.WalkSpells
import Derived.Deep.LoopGhost
import Derived.Deep.OwnRows
import Derived.Deep.QuietTactic
import Derived.BigQuiet
namespace Go.Proofs.Qxb6601656a
open Go.RowKit

/-! ### The plain functions -/
def byte (s : ByteArray) (i : Nat) : Nat := if h : i < s.size then (s[i]'h).toNat else 0
theorem byte_at (s : ByteArray) (i : Nat) (h : i < s.size) : (s[i]'h).toNat = byte s i := by simp [byte, h]
theorem byte_lt (s : ByteArray) (i : Nat) : byte s i < 256 := by
  unfold byte
  split
  · exact UInt8.toNat_lt _
  · omega

def dg (n : Nat) : Bool := decide (48 ≤ n) && decide (n ≤ 57)
/-- Does byte i of s fit byte i of the shape? -/
def okB (s sh : ByteArray) (i : Nat) : Bool := if byte sh i = 57 then dg (byte s i) else decide (byte s i = byte sh i)
def allB (p : Nat → Bool) : Nat → Bool
  | 0 => true
  | n + 1 => allB p n && p n
theorem allB_iff (p : Nat → Bool) (n : Nat) : allB p n = true ↔ ∀ i, i < n → p i = true := by
  induction n with
  | zero => simp [allB]
  | succ n ih =>
    rw [allB, Bool.and_eq_true, ih]
    constructor
    · rintro ⟨h1, h2⟩ i hi
      by_cases e : i = n
      · subst e; exact h2
      · exact h1 i (by omega)
    · intro h
      exact ⟨fun i hi => h i (by omega), h n (by omega)⟩
theorem allB_false (p : Nat → Bool) (n i : Nat) (hi : i < n) (h : p i = false) : allB p n = false := by
  cases hb : allB p n with
  | false => rfl
  | true => have := (allB_iff p n).1 hb i hi; rw [h] at this; cases this
def shp (s sh : ByteArray) : Bool := decide (s.size = sh.size) && allB (okB s sh) sh.size
/-- Byte i of the masked text. -/
def msk (s sh : ByteArray) (i : Nat) : Nat := if i < sh.size ∧ byte sh i = 57 ∧ dg (byte s i) = true then 57 else byte s i
theorem msk_lt (s sh : ByteArray) (i : Nat) : msk s sh i < 256 := by
  unfold msk
  split
  · omega
  · exact byte_lt s i
theorem msk_ok (s sh : ByteArray) (i : Nat) (hi : i < sh.size) : (msk s sh i = byte sh i) ↔ okB s sh i = true := by
  unfold msk okB
  by_cases h1 : byte sh i = 57
  · by_cases h2 : dg (byte s i) = true
    · simp [hi, h1, h2]
    · have h3 : byte s i ≠ 57 := by intro e; apply h2; simp [dg, e]
      simp [h1, h2, h3]
  · simp [h1]

/-! ### The walks -/
theorem dig17 (n : Int) (w : World) (h : 48 ≤ n ∧ n ≤ 57) : Calls Try.prog 17 #[.int .u8 n] w fun e w' => e = .returned (.bool true) ∧ w = w' := by
  obtain ⟨h1, h2⟩ := h
  go_enter Try.func17, Try.ntmps17
  go_wp2
  go_ret
  exact ⟨by simp, rfl⟩
theorem dig17_no (n : Int) (w : World) (h : n < 48 ∨ 57 < n) : Calls Try.prog 17 #[.int .u8 n] w fun e w' => e = .returned (.bool false) ∧ w = w' := by
  by_cases h1 : n < 48
  · have hd : decide ((48 : Int) ≤ n) = false := by simp; omega
    go_enter Try.func17, Try.ntmps17
    go_wp2
    go_ret
    exact ⟨rfl, rfl⟩
  · have h2 : 48 ≤ n := by omega
    have h3 : decide (n ≤ 57) = false := by simp; omega
    go_enter Try.func17, Try.ntmps17
    go_wp2
    go_ret
    exact ⟨by simp, rfl⟩
theorem dig8 (n : Int) (w : World) (h : 48 ≤ n ∧ n ≤ 57) : Calls Try.prog 8 #[.int .u8 n] w fun e w' => e = .returned (.bool true) ∧ w = w' := by
  obtain ⟨h1, h2⟩ := h
  go_enter Try.func8, Try.ntmps8
  go_wp2
  go_ret
  exact ⟨by simp, rfl⟩
theorem dig8_no (n : Int) (w : World) (h : n < 48 ∨ 57 < n) : Calls Try.prog 8 #[.int .u8 n] w fun e w' => e = .returned (.bool false) ∧ w = w' := by
  by_cases h1 : n < 48
  · have hd : decide ((48 : Int) ≤ n) = false := by simp; omega
    go_enter Try.func8, Try.ntmps8
    go_wp2
    go_ret
    exact ⟨rfl, rfl⟩
  · have h2 : 48 ≤ n := by omega
    have h3 : decide (n ≤ 57) = false := by simp; omega
    go_enter Try.func8, Try.ntmps8
    go_wp2
    go_ret
    exact ⟨by simp, rfl⟩

theorem ret_bool {a b : Bool} (h : a = b) : Ending.returned (.bool a) = .returned (.bool b) := by rw [h]

set_option maxRecDepth 100000 in
set_option maxHeartbeats 1000000 in
theorem shaped_any (s sh : ByteArray) (w : World) (hs : s.size ≤ 1048576) (_hsh : sh.size ≤ 1048576) :
    Calls Try.prog 15 #[.string s, .string sh] w fun e w' => e = .returned (.bool (shp s sh)) ∧ ∃ n, w' = w.drewN n := by
  by_cases hne : s.size = sh.size
  · have HNE : Hid (s.size = sh.size) := hne
    have hz1 : s.size ≤ sh.size := by omega
    have hz2 : sh.size ≤ s.size := by omega
    have hnb : ((s.size : Int) != (sh.size : Int)) = false := by simp; omega
    clear hne
    go_enter Try.func15, Try.ntmps15
    go_wp2
    go_loopg [13] sh.size (fun k i w' => ∃ (j n : Nat), j + k = sh.size ∧ i = .int .i64 j ∧ Hid (allB (okB s sh) j = true) ∧ w' = w.drewN n)
    case atStart => exact ⟨0, 0, by omega, rfl, rfl, rfl⟩
    case round =>
      obtain ⟨j, n, hj, rfl, HA, rfl⟩ := hrel
      by_cases hlt : j < sh.size
      · have hlt2 : j < s.size := by omega
        have HB : Hid ((s[j]'hlt2).toNat = byte s j ∧ (sh[j]'hlt).toNat = byte sh j) := ⟨byte_at s j hlt2, byte_at sh j hlt⟩
        by_cases h57 : (sh[j]'hlt).toNat = 57
        · have hq1 : (((sh[j]'hlt).toNat : Int) == 57) = true := by simp [h57]
          have hq2 : (((sh[j]'hlt).toNat : Int) != 57) = false := by simp [h57]
          by_cases hd : 48 ≤ (s[j]'hlt2).toNat ∧ (s[j]'hlt2).toNat ≤ 57
          · have HA' : Hid (allB (okB s sh) (j + 1) = true) := by
              unfold Hid; rw [allB, HA.out]; simp [okB, ← HB.out.1, ← HB.out.2, h57, dg, hd]
            obtain ⟨hd1, hd2⟩ := hd
            go_wp2_with (go_at_call 17; refine (dig17 _ _ (by omega)).mono ?_; rintro e w' ⟨rfl, rfl⟩)
            go_quiet (fail)
            go_wp2
            go_roundg (gk - 1)
            case measure => omega
            case rel => exact ⟨j + 1, _, by omega, by go_num, HA', rfl⟩
          · have HF : Hid (false = shp s sh) := by
              have hok : okB s sh j = false := by
                have hx : dg (s[j]'hlt2).toNat = false := by simp [dg]; omega
                simp [okB, ← HB.out.1, ← HB.out.2, h57, hx]
              unfold Hid; rw [shp, allB_false _ _ _ hlt hok]; simp
            go_wp2_with (go_at_call 17; refine (dig17_no _ _ (by omega)).mono ?_; rintro e w' ⟨rfl, rfl⟩)
            go_ret
            exact ⟨ret_bool HF.out, _, rfl⟩
        · have hq1 : (((sh[j]'hlt).toNat : Int) == 57) = false := by simp; omega
          have hq2 : (((sh[j]'hlt).toNat : Int) != 57) = true := by simp; omega
          by_cases heq : (s[j]'hlt2).toNat = (sh[j]'hlt).toNat
          · have hq3 : (((s[j]'hlt2).toNat : Int) != ((sh[j]'hlt).toNat : Int)) = false := by simp [heq]
            have HA' : Hid (allB (okB s sh) (j + 1) = true) := by
              unfold Hid; rw [allB, HA.out]; simp [okB, ← HB.out.1, ← HB.out.2, h57, heq]
            clear heq
            go_wp2
            go_quiet (fail)
            go_wp2
            go_roundg (gk - 1)
            case measure => omega
            case rel => exact ⟨j + 1, _, by omega, by go_num, HA', rfl⟩
          · have hq3 : (((s[j]'hlt2).toNat : Int) != ((sh[j]'hlt).toNat : Int)) = true := by simp; omega
            have HF : Hid (false = shp s sh) := by
              have hok : okB s sh j = false := by simp [okB, ← HB.out.1, ← HB.out.2, h57, heq]
              unfold Hid; rw [shp, allB_false _ _ _ hlt hok]; simp
            clear heq
            go_wp2
            go_quiet (fail)
            go_wp2
            go_ret
            exact ⟨ret_bool HF.out, n + nq, by simp⟩
      · obtain rfl : sh.size = j := by omega
        have HF : Hid (true = shp s sh) := by unfold Hid; rw [shp, HA.out, HNE.out]; simp
        go_wp2
        go_ret
        exact ⟨ret_bool HF.out, _, rfl⟩
  · have hnb : ((s.size : Int) != (sh.size : Int)) = true := by simp; omega
    have HF : Hid (false = shp s sh) := by unfold Hid; rw [shp]; simp [hne]
    go_enter Try.func15, Try.ntmps15
    go_wp2
    go_ret
    exact ⟨ret_bool HF.out, 0, rfl⟩

theorem zzshaped_any (s sh : ByteArray) (w : World) (hs : s.size ≤ 1048576) (hsh : sh.size ≤ 1048576) :
    Calls Try.prog 9 #[.string s, .string sh] w fun e w' => e = .returned (.bool (shp s sh)) ∧ ∃ n, w' = w.drewN n := by
  go_enter Try.func9, Try.ntmps9
  go_wp2_with (go_at_call 15; refine (shaped_any s sh w hs hsh).mono ?_; rintro e w' ⟨rfl, n, rfl⟩)
  go_ret
  exact ⟨rfl, n, rfl⟩

end Go.Proofs.Qxb6601656a
