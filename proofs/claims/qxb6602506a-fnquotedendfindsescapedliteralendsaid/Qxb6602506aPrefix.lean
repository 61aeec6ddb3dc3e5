/-
  Seat b6602506a: the walk of FnQuotedEndPrefixStable.
-/
import Derived.Test.Qxb6602506aWalk
namespace Go.Proofs.Qxb6602506a
open Go.RowKit

theorem guard9 (s t : ByteArray) (w : World) (h : s.size + t.size ≤ 1048576) :
    Calls Try.prog 9 #[.string s, .string t] w fun e w' => e = .returned (.bool true) ∧ w = w' := by
  go_enter Try.func9, Try.ntmps9
  go_wp2
  go_ret
  exact ⟨rfl, rfl⟩
theorem guard9_no (s t : ByteArray) (w : World) (h : 1048576 < s.size + t.size) (hs : s.size ≤ 9223372036854775807) (ht : t.size ≤ 9223372036854775807) :
    Calls Try.prog 9 #[.string s, .string t] w fun e w' => e = .returned (.bool false) ∧ w = w' := by
  by_cases h1 : 1048576 < s.size
  · go_enter Try.func9, Try.ntmps9
    go_wp2
    go_ret
    exact ⟨rfl, rfl⟩
  · by_cases h2 : 1048576 < t.size
    · go_enter Try.func9, Try.ntmps9
      go_wp2
      go_ret
      exact ⟨rfl, rfl⟩
    · go_enter Try.func9, Try.ntmps9
      go_wp2
      go_ret
      exact ⟨rfl, rfl⟩

/-- The export's contract, its answer by name. -/
theorem zz_gen (s : ByteArray) (w : World) (r : Int) (hs : s.size ≤ 4194304) (Hr : Hid (qend (byte s) s.size = r)) :
    Calls Try.prog 7 #[.string s] w fun e w' => e = .returned (.int .i64 r) ∧ w = w' := by
  have h := zz_any s w hs
  rw [Hr.out] at h
  exact h

theorem byte_append (s t : ByteArray) (i : Nat) (h : i < s.size) : byte s i = byte (s ++ t) i := by
  have h2 : i < (s ++ t).size := by rw [ByteArray.size_append]; omega
  rw [← byte_at s i h, ← byte_at (s ++ t) i h2, ByteArray.getElem_append_left h]
theorem byte_extract (s : ByteArray) (n i : Nat) (hn : n ≤ s.size) (h : i < n) : byte s i = byte (s.extract 0 n) i := by
  have hz : (s.extract 0 n).size = n := by rw [ByteArray.size_extract]; omega
  have h2 : i < (s.extract 0 n).size := by omega
  rw [← byte_at s i (by omega), ← byte_at (s.extract 0 n) i h2, ByteArray.getElem_extract]
  simp

theorem prefix_short (s t : ByteArray) (w : World) (h : s.size + t.size ≤ 1048576) :
    Calls Try.prog 4 #[.string s, .string t] w fun e w' => e = .returned (.bool true) ∧ Grown w w' := by
  have hst : (s ++ t).size = s.size + t.size := ByteArray.size_append
  have htail := qend_tail (byte s) (byte (s ++ t)) s.size t.size (fun i hi => byte_append s t i hi)
  rw [← hst] at htail
  have HST : Hid ((s ++ t).size ≤ 4194304) := by unfold Hid; omega
  clear hst
  rcases qend_cases (byte s) s.size with hr | ⟨j, h1, h2, h3, h4⟩
  · obtain ⟨J, HJ⟩ : ∃ J, Hid (qend (byte (s ++ t)) (s ++ t).size = J) := ⟨_, rfl⟩
    have hJ := htail.1 hr
    rw [HJ.out] at hJ
    have Hr : Hid (qend (byte s) s.size = -1) := hr
    clear hr htail
    rcases hJ with rfl | hJ
    · go_enter Try.func4, Try.ntmps4
      go_wp2_with (go_at_call 9; refine (guard9 s t w h).mono ?_; rintro e w' ⟨rfl, rfl⟩)
      refine (zz_gen s w _ (by omega) Hr).mono ?_
      rintro e w' ⟨rfl, rfl⟩
      go_wp2_with fail
      refine (zz_gen (s ++ t) w _ HST.out HJ).mono ?_
      rintro e w' ⟨rfl, rfl⟩
      go_wp2
      go_ret
      exact ⟨rfl, Grown.refl _⟩
    · have hd : (J == -1) = false := by simp; omega
      go_enter Try.func4, Try.ntmps4
      go_wp2_with (go_at_call 9; refine (guard9 s t w h).mono ?_; rintro e w' ⟨rfl, rfl⟩)
      refine (zz_gen s w _ (by omega) Hr).mono ?_
      rintro e w' ⟨rfl, rfl⟩
      go_wp2_with fail
      refine (zz_gen (s ++ t) w _ HST.out HJ).mono ?_
      rintro e w' ⟨rfl, rfl⟩
      go_wp2
      go_ret
      exact ⟨by simp, Grown.refl _⟩
  · have Hr : Hid (qend (byte s) s.size = (j : Int) + 1) := h4
    have HJ : Hid (qend (byte (s ++ t)) (s ++ t).size = (j : Int) + 1) := by unfold Hid; rw [htail.2 (by omega), h4]
    have hz : (s.extract 0 (j + 1)).size = j + 1 := by rw [ByteArray.size_extract]; omega
    have HC : Hid (qend (byte (s.extract 0 (j + 1))) (s.extract 0 (j + 1)).size = (j : Int) + 1) := by
      unfold Hid; rw [hz]; exact qend_cut (byte s) _ s.size j h4 h2 h1 (fun i hi => byte_extract s (j + 1) i (by omega) hi)
    have HZ : Hid ((s.extract 0 (j + 1)).size ≤ 4194304) := by unfold Hid; omega
    have h34 : (s[j]'h2).toNat = 34 := by rw [byte_at s j h2]; exact h3
    clear h4 htail hz h3
    have hd0 : ((j : Int) + 1 == -1) = false := by simp; omega
    have hd1 : decide ((j : Int) + 1 < 2) = false := by simp; omega
    have hd2 : decide ((s.size : Int) < (j : Int) + 1) = false := by simp; omega
    go_enter Try.func4, Try.ntmps4
    go_wp2_with (go_at_call 9; refine (guard9 s t w h).mono ?_; rintro e w' ⟨rfl, rfl⟩)
    refine (zz_gen s w _ (by omega) Hr).mono ?_
    rintro e w' ⟨rfl, rfl⟩
    go_wp2_with fail
    refine (zz_gen (s ++ t) w _ HST.out HJ).mono ?_
    rintro e w' ⟨rfl, rfl⟩
    go_wp2_with fail
    refine (zz_gen (s.extract 0 (j + 1)) w _ HZ.out HC).mono ?_
    rintro e w' ⟨rfl, rfl⟩
    go_wp2
    go_ret
    exact ⟨by simp, Grown.refl _⟩

theorem prefix_walk (s t : ByteArray) (hs : s.size ≤ maxLen) (ht : t.size ≤ maxLen) (w : World) :
    Calls Try.prog 4 #[.string s, .string t] w fun e w' => e = .returned (.bool true) ∧ Grown w w' := by
  unfold maxLen at hs ht
  by_cases h : s.size + t.size ≤ 1048576
  · exact prefix_short s t w h
  · go_enter Try.func4, Try.ntmps4
    go_wp2_with (go_at_call 9; refine (guard9_no s t w (by omega) (by omega) (by omega)).mono ?_; rintro e w' ⟨rfl, rfl⟩)
    go_ret
    exact ⟨rfl, Grown.refl _⟩

end Go.Proofs.Qxb6602506a
