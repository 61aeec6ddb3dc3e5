/-
  Seat b6602506a: the walks of quotedEnd, its export, and the backward rule.
-/
import Derived.Test.Qxb6602506aProg
import Derived.Test.Qxb6602506aMath
import Derived.WalkKit
import Derived.WalkLawsBesides
import Derived.WalkSpells
import Derived.Deep.LoopGhost
namespace Go.Proofs.Qxb6602506a
open Go.RowKit

/-- The text's byte i. -/
def byte (s : ByteArray) (i : Nat) : Nat := if h : i < s.size then (s[i]'h).toNat else 0
theorem byte_at (s : ByteArray) (i : Nat) (h : i < s.size) : (s[i]'h).toNat = byte s i := by simp [byte, h]
theorem ret_int {k : IntKind} {a b : Int} (h : a = b) : Ending.returned (.int k a) = .returned (.int k b) := by rw [h]

set_option maxRecDepth 100000 in
theorem quoted_any (s : ByteArray) (w : World) (hs : s.size ≤ 4194304) :
    Calls Try.prog 11 #[.string s] w fun e w' => e = .returned (.int .i64 (qend (byte s) s.size)) ∧ w = w' := by
  go_enter Try.func11, Try.ntmps11
  go_wp2
  go_loopg [3] (s.size + 2) (fun k i w' => ∃ (j : Nat), 1 ≤ j ∧ j ≤ s.size + 1 ∧ j + k = s.size + 3 ∧ i = .int .i64 j ∧ Hid (run (byte s) j % 2 = 0 ∧ scan (byte s) j (s.size - j) = qend (byte s) s.size) ∧ w = w')
  case atStart => exact ⟨1, by omega, by omega, by omega, rfl, ⟨rfl, rfl⟩, rfl⟩
  case round =>
    obtain ⟨j, h1, hj, hk, rfl, HR, rfl⟩ := hrel
    by_cases hlt : j < s.size
    · have hbj := byte_at s j hlt
      have HB : Hid ((s[j]'hlt).toNat = byte s j) := hbj
      clear hbj
      by_cases h92 : (s[j]'hlt).toNat = 92
      · have hsk := scan_skip (byte s) j s.size h1 HR.out.1 (by rw [← HB.out]; exact h92)
        have HN : Hid (run (byte s) (j + 2) % 2 = 0 ∧ scan (byte s) (j + 2) (s.size - (j + 2)) = qend (byte s) s.size) := ⟨hsk.2, by rw [← hsk.1]; exact HR.out.2⟩
        clear hsk
        go_wp2
        go_roundg (gk - 2)
        case measure => omega
        case rel => exact ⟨j + 2, by omega, by omega, by omega, by go_num, HN, rfl⟩
      · by_cases h34 : (s[j]'hlt).toNat = 34
        · have HE : Hid ((j : Int) + 1 = qend (byte s) s.size) := by
            have h := HR.out.2
            rw [scan_quote (byte s) j s.size hlt HR.out.1 (by rw [← HB.out]; exact h34)] at h
            exact h
          go_wp2
          go_ret
          exact ⟨ret_int HE.out, rfl⟩
        · have hsk := scan_plain (byte s) j s.size (by rw [← HB.out]; exact h92) (by rw [← HB.out]; exact h34)
          have HN : Hid (run (byte s) (j + 1) % 2 = 0 ∧ scan (byte s) (j + 1) (s.size - (j + 1)) = qend (byte s) s.size) := ⟨hsk.2, by rw [← hsk.1]; exact HR.out.2⟩
          clear hsk
          go_wp2
          go_roundg (gk - 1)
          case measure => omega
          case rel => exact ⟨j + 1, by omega, by omega, by omega, by go_num, HN, rfl⟩
    · have HE : Hid ((-1 : Int) = qend (byte s) s.size) := by
        have h := HR.out.2
        rw [scan_none (byte s) j s.size (by omega)] at h
        exact h
      go_wp2
      go_ret
      exact ⟨ret_int HE.out, rfl⟩

theorem zz_any (s : ByteArray) (w : World) (hs : s.size ≤ 4194304) :
    Calls Try.prog 7 #[.string s] w fun e w' => e = .returned (.int .i64 (qend (byte s) s.size)) ∧ w = w' := by
  go_enter Try.func7, Try.ntmps7
  go_wp2_with (go_at_call 11; refine (quoted_any s w hs).mono ?_; rintro e w' ⟨rfl, rfl⟩)
  go_ret
  exact ⟨rfl, rfl⟩

set_option maxRecDepth 100000 in
/-- The backward rule finds the same. -/
theorem runs_any (s : ByteArray) (w : World) (hs : s.size ≤ 1048576) :
    Calls Try.prog 8 #[.string s] w fun e w' => e = .returned (.int .i64 (qend (byte s) s.size)) ∧ w = w' := by
  go_enter Try.func8, Try.ntmps8
  go_wp2
  go_loopg [3] (s.size + 2) (fun k i w' => ∃ (j : Nat), 1 ≤ j ∧ j ≤ s.size + 1 ∧ j + k = s.size + 3 ∧ i = .int .i64 j ∧ Hid (scan (byte s) j (s.size - j) = qend (byte s) s.size) ∧ w = w')
  case atStart => exact ⟨1, by omega, by omega, by omega, rfl, rfl, rfl⟩
  case round =>
    obtain ⟨j, h1, hj, hk, rfl, HR, rfl⟩ := hrel
    by_cases hlt : j < s.size
    · have HB : Hid ((s[j]'hlt).toNat = byte s j) := byte_at s j hlt
      by_cases h34 : (s[j]'hlt).toNat = 34
      · go_wp2
        go_loopg [4, 5] j (fun k r q w' => ∃ (a c : Nat), a + c + 1 = j ∧ k = c + 1 ∧ r = .int .i64 a ∧ q = .int .i64 c ∧ Hid (run (byte s) j = a + run (byte s) (c + 1)) ∧ w = w')
        case atStart => exact ⟨0, j - 1, by omega, by omega, rfl, by go_num, by rw [show j - 1 + 1 = j by omega, Nat.zero_add]; rfl, rfl⟩
        case round =>
          obtain ⟨a, c, hac, hk2, rfl, rfl, HA, rfl⟩ := hrel
          by_cases hc1 : 1 ≤ c
          · have hcs : c < s.size := by omega
            have HC : Hid ((s[c]'hcs).toNat = byte s c) := byte_at s c hcs
            by_cases h92 : (s[c]'hcs).toNat = 92
            · have HA' : Hid (run (byte s) j = a + 1 + run (byte s) (c - 1 + 1)) := by
                unfold Hid
                rw [HA.out, run_hit (byte s) c hc1 (by rw [← HC.out]; exact h92), show c - 1 + 1 = c by omega]
                omega
              go_wp2
              go_roundg (gk - 1)
              case measure => omega
              case rel => exact ⟨a + 1, c - 1, by omega, by omega, by go_num, by go_num, HA', rfl⟩
            · have HA' : Hid (run (byte s) j = a) := by
                unfold Hid
                rw [HA.out, run_miss (byte s) c (by rw [← HC.out]; exact h92)]
                rfl
              have h34b : byte s j = 34 := by rw [← HB.out]; exact h34
              by_cases hev : a % 2 = 0
              · have HE : Hid ((j : Int) + 1 = qend (byte s) s.size) := by
                  have h := HR.out
                  rw [scan_good (byte s) j s.size hlt (by simp [good, h34b, HA'.out, hev])] at h
                  exact h
                clear h34b
                go_wp2
                go_ret
                exact ⟨ret_int HE.out, rfl⟩
              · have HN : Hid (scan (byte s) (j + 1) (s.size - (j + 1)) = qend (byte s) s.size) := by
                  have h := HR.out
                  rw [scan_bad (byte s) j s.size (by simp [good, h34b, HA'.out, hev])] at h
                  exact h
                clear h34b
                go_wp2
                go_roundg (s.size + 2 - j)
                case measure => omega
                case rel => exact ⟨j + 1, by omega, by omega, by omega, by go_num, HN, rfl⟩
          · have HA' : Hid (run (byte s) j = a) := by
              unfold Hid
              rw [HA.out, show c = 0 by omega]
              rfl
            have h34b : byte s j = 34 := by rw [← HB.out]; exact h34
            by_cases hev : a % 2 = 0
            · have HE : Hid ((j : Int) + 1 = qend (byte s) s.size) := by
                have h := HR.out
                rw [scan_good (byte s) j s.size hlt (by simp [good, h34b, HA'.out, hev])] at h
                exact h
              clear h34b
              go_wp2
              go_ret
              exact ⟨ret_int HE.out, rfl⟩
            · have HN : Hid (scan (byte s) (j + 1) (s.size - (j + 1)) = qend (byte s) s.size) := by
                have h := HR.out
                rw [scan_bad (byte s) j s.size (by simp [good, h34b, HA'.out, hev])] at h
                exact h
              clear h34b
              go_wp2
              go_roundg (s.size + 2 - j)
              case measure => omega
              case rel => exact ⟨j + 1, by omega, by omega, by omega, by go_num, HN, rfl⟩
      · have HN : Hid (scan (byte s) (j + 1) (s.size - (j + 1)) = qend (byte s) s.size) := by
          have h := HR.out
          rw [scan_bad (byte s) j s.size (by simp [good]; intro h; rw [← HB.out] at h; exact absurd h h34)] at h
          exact h
        go_wp2
        go_roundg (gk - 1)
        case measure => omega
        case rel => exact ⟨j + 1, by omega, by omega, by omega, by go_num, HN, rfl⟩
    · have HE : Hid ((-1 : Int) = qend (byte s) s.size) := by
        have h := HR.out
        rw [scan_none (byte s) j s.size (by omega)] at h
        exact h
      go_wp2
      go_ret
      exact ⟨ret_int HE.out, rfl⟩

theorem guard6 (s : ByteArray) (w : World) (h : s.size ≤ 1048576) :
    Calls Try.prog 6 #[.string s] w fun e w' => e = .returned (.bool true) ∧ w = w' := by
  go_enter Try.func6, Try.ntmps6
  go_wp2
  go_ret
  exact ⟨rfl, rfl⟩
theorem guard6_no (s : ByteArray) (w : World) (h : 1048576 < s.size) :
    Calls Try.prog 6 #[.string s] w fun e w' => e = .returned (.bool false) ∧ w = w' := by
  go_enter Try.func6, Try.ntmps6
  go_wp2
  go_ret
  exact ⟨rfl, rfl⟩

theorem matches_walk (s : ByteArray) (hm : s.size ≤ maxLen) (w : World) :
    Calls Try.prog 3 #[.string s] w fun e w' => e = .returned (.bool true) ∧ Grown w w' := by
  unfold maxLen at hm
  by_cases h : s.size ≤ 1048576
  · go_enter Try.func3, Try.ntmps3
    go_wp2_with (first | (go_at_call 6; refine (guard6 s w h).mono ?_; rintro e w' ⟨rfl, rfl⟩) | (go_at_call 7; refine (zz_any s w (by omega)).mono ?_; rintro e w' ⟨rfl, rfl⟩) | (go_at_call 8; refine (runs_any s w h).mono ?_; rintro e w' ⟨rfl, rfl⟩))
    go_ret
    exact ⟨by simp, Grown.refl _⟩
  · go_enter Try.func3, Try.ntmps3
    go_wp2_with (first | (go_at_call 6; refine (guard6_no s w (by omega)).mono ?_; rintro e w' ⟨rfl, rfl⟩))
    go_ret
    exact ⟨rfl, Grown.refl _⟩

end Go.Proofs.Qxb6602506a
