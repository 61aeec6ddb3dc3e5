/-
  Seat b6601656a: the walk of FnShapedIsMaskedEquality.
-/
import Derived.Test.Qxb6601656aWalk
namespace Go.Proofs.Qxb6601656a
open Go.RowKit

theorem Try.info5 : (Try.prog.info? 5).map (fun i => (i.zero, i.size, i.bytes)) = some (some (.int .u8 0), 1, 1) := by kernel_rfl

theorem guard7 (s t : ByteArray) (w : World) (h : s.size + t.size ≤ 1048576) :
    Calls Try.prog 7 #[.string s, .string t] w fun e w' => e = .returned (.bool true) ∧ w = w' := by
  go_enter Try.func7, Try.ntmps7
  go_wp2
  go_ret
  exact ⟨rfl, rfl⟩
theorem guard7_no (s t : ByteArray) (w : World) (h : 1048576 < s.size + t.size) (hs : s.size ≤ 9223372036854775807) (ht : t.size ≤ 9223372036854775807) :
    Calls Try.prog 7 #[.string s, .string t] w fun e w' => e = .returned (.bool false) ∧ w = w' := by
  by_cases h1 : 1048576 < s.size
  · go_enter Try.func7, Try.ntmps7
    go_wp2
    go_ret
    exact ⟨rfl, rfl⟩
  · by_cases h2 : 1048576 < t.size
    · go_enter Try.func7, Try.ntmps7
      go_wp2
      go_ret
      exact ⟨rfl, rfl⟩
    · go_enter Try.func7, Try.ntmps7
      go_wp2
      go_ret
      exact ⟨rfl, rfl⟩

/-- The string of a list of bytes. -/
def strOf (ns : List Nat) : ByteArray := ⟨(ns.map fun n => UInt8.ofNat n).toArray⟩

theorem foldl_push (l : List Nat) : ∀ acc : ByteArray, (l.map fun n : Nat => (n : Int)).foldl (fun r n => r.push (UInt8.ofNat n.toNat)) acc = ⟨acc.data ++ (l.map fun n => UInt8.ofNat n).toArray⟩ := by
  induction l with
  | nil => intro acc; simp
  | cons a l ih =>
    intro acc
    simp only [List.map_cons, List.foldl_cons]
    rw [ih]
    simp [ByteArray.push]

/-- The masked text. -/
def mtext (s sh : ByteArray) : List Nat := (List.range s.size).map (msk s sh)

theorem masked_string (s sh : ByteArray) (b : Nat) (w : World) (h : w.rowIs b 5 s.size (fun i => .int .u8 (msk s sh i : Int))) :
    (convert 23 9 (.slice (some ⟨b, 0, none⟩) s.size s.size)).run Try.prog w = .ok (.string (strOf (mtext s sh))) w := by
  rw [run_convert_bytes_string w 23 9 5 _ _ _ Try.underlying23 Try.underlying5 Try.underlying9]
  have hl := run_loadCells_list (P := Try.prog) w ⟨b, 0, none⟩ ((mtext s sh).map fun n : Nat => Value.int .u8 (n : Int)) (fun j v hv => by
    have hj : j < s.size := by
      have := (List.getElem?_eq_some_iff.1 hv).1
      simpa [mtext] using this
    rw [Addr.add_lit, Nat.zero_add, h.cell hj]
    simp [mtext, hj] at hv
    rw [hv])
  have e1 : ((mtext s sh).map fun n : Nat => Value.int .u8 (n : Int)).length = s.size := by simp [mtext]
  have e2 : ((mtext s sh).map fun n : Nat => Value.int .u8 (n : Int)) = ((mtext s sh).map fun n : Nat => (n : Int)).map (Value.int .u8) := by simp
  rw [e1, e2] at hl
  rw [run_bytesToString w ⟨b, 0, none⟩ s.size s.size _ hl, foldl_push]
  simp [strOf, ByteArray.empty, ByteArray.emptyWithCapacity]
  rfl

theorem data_at (t : ByteArray) (i : Nat) (h : i < t.size) : t.data.toList[i]? = some (UInt8.ofNat (byte t i)) := by
  have h' : i < t.data.toList.length := by simpa using h
  rw [List.getElem?_eq_getElem h', ← byte_at t i h, UInt8.ofNat_toNat]
  rfl

/-- Masked equality says the same as 'shaped'. -/
theorem law_eq (s sh : ByteArray) : (shp s sh == ((strOf (mtext s sh)).toList == sh.toList)) = true := by
  have e1 : (strOf (mtext s sh)).toList = (mtext s sh).map fun n => UInt8.ofNat n := ByteArray.toList_mk _
  have e2 : sh.toList = sh.data.toList := ByteArray.toList_eq sh
  have hlen : sh.data.toList.length = sh.size := by simp
  rw [beq_iff_eq, Bool.eq_iff_iff, beq_iff_eq, e1, e2]
  constructor
  · intro h
    simp only [shp, Bool.and_eq_true, decide_eq_true_eq, allB_iff] at h
    obtain ⟨h1, h2⟩ := h
    apply List.ext_getElem?
    intro i
    by_cases hi : i < sh.size
    · rw [data_at sh i hi, ← (msk_ok s sh i hi).2 (h2 i hi)]
      simp [mtext, h1, hi]
    · rw [List.getElem?_eq_none (by simp [mtext]; omega), List.getElem?_eq_none (by omega)]
  · intro h
    have h1 : s.size = sh.size := by
      have := congrArg List.length h
      rw [hlen] at this
      simpa [mtext] using this
    simp only [shp, Bool.and_eq_true, decide_eq_true_eq, allB_iff]
    refine ⟨h1, fun i hi => (msk_ok s sh i hi).1 ?_⟩
    have h2 := congrArg (fun l => l[i]?) h
    simp only [data_at sh i hi] at h2
    simp [mtext, h1, hi] at h2
    have h3 := congrArg UInt8.toNat h2
    simpa [Nat.mod_eq_of_lt (msk_lt s sh i), Nat.mod_eq_of_lt (byte_lt sh i)] using h3

set_option maxRecDepth 100000 in
set_option maxHeartbeats 1000000 in
theorem law_short (s sh : ByteArray) (w : World) (hs : s.size ≤ 524288) (hsh : sh.size ≤ 524288) :
    Calls Try.prog 3 #[.string s, .string sh] w fun e w' => e = .returned (.bool true) ∧ Below w.heap.size w w' := by
  have hmk := run_make_row' (P := Try.prog) 23 5 (.int .u8 0) 1 Try.underlying23 Try.info5 rfl .i64 .i64 s.size (by omega) (by omega)
  have g1 : decide ((524288 : Int) < (s.size : Int)) = false := by simp; omega
  have g2 : decide ((524288 : Int) < (sh.size : Int)) = false := by simp; omega
  go_enter Try.func3, Try.ntmps3
  go_wp2_with (go_at_call 7; refine (guard7 s sh w (by omega)).mono ?_; rintro e w' ⟨rfl, rfl⟩)
  clear hmk
  go_loopg [6] s.size (fun k i w' => ∃ (j : Nat), j + k = s.size ∧ i = .int .i64 j ∧ w'.rowIs w.heap.size 5 s.size (fun i => if i < j then .int .u8 (msk s sh i : Int) else .int .u8 0) ∧ Below w.heap.size w w')
  case atStart => exact ⟨0, by omega, rfl, (World.rowIs_made w _ s.size 5).congr (fun i _ => by simp), (Below.refl _ _).alloc (Nat.le_refl _) _⟩
  case round =>
    obtain ⟨j, hj, rfl, hrow, hbel⟩ := hrel
    by_cases hlt : j < s.size
    · have hold := hrow.cell hlt
      rw [if_neg (Nat.lt_irrefl j)] at hold
      have hfro := hrow.frozen j
      have HB : Hid ((s[j]'hlt).toNat = byte s j) := byte_at s j hlt
      have hstep : ∀ x : Nat, x = msk s sh j → (wr.setCell ⟨w.heap.size, j, none⟩ (.int .u8 (x : Int))).rowIs w.heap.size 5 s.size (fun i => if i < j + 1 then .int .u8 (msk s sh i : Int) else .int .u8 0) := by
        intro x hx
        refine (hrow.set j _).congr fun t _ => ?_
        by_cases h1 : t = j
        · subst h1; rw [if_pos rfl, if_pos (by omega), hx]
        · by_cases h2 : t < j
          · rw [if_neg h1, if_pos h2, if_pos (by omega)]
          · rw [if_neg h1, if_neg h2, if_neg (by omega)]
      have HS : Hid (∀ x : Nat, x = msk s sh j → (wr.setCell ⟨w.heap.size, j, none⟩ (.int .u8 (x : Int))).rowIs w.heap.size 5 s.size (fun i => if i < j + 1 then .int .u8 (msk s sh i : Int) else .int .u8 0)) := hstep
      clear hstep
      by_cases h1 : j < sh.size
      · have hq0 : decide ((j : Int) < (sh.size : Int)) = true := by simp; omega
        have HC : Hid ((sh[j]'h1).toNat = byte sh j) := byte_at sh j h1
        by_cases h57 : (sh[j]'h1).toNat = 57
        · have hq1 : (((sh[j]'h1).toNat : Int) == 57) = true := by simp [h57]
          by_cases hd : 48 ≤ (s[j]'hlt).toNat ∧ (s[j]'hlt).toNat ≤ 57
          · have HM : Hid (57 = msk s sh j) := by unfold Hid; simp [msk, h1, ← HB.out, ← HC.out, h57, dg, hd]
            obtain ⟨hd1, hd2⟩ := hd
            go_wp2_with (go_at_call 8; refine (dig8 _ _ (by omega)).mono ?_; rintro e w' ⟨rfl, rfl⟩)
            go_roundg (gk - 1)
            case measure => omega
            case rel => exact ⟨j + 1, by omega, by go_num, HS.out 57 HM.out, hbel.setCell (Nat.le_refl _) _⟩
          · have HM : Hid ((s[j]'hlt).toNat = msk s sh j) := by
              have hx : dg (s[j]'hlt).toNat = false := by simp [dg]; omega
              unfold Hid; simp [msk, h1, ← HB.out, ← HC.out, h57, hx]
            go_wp2_with (go_at_call 8; refine (dig8_no _ _ (by omega)).mono ?_; rintro e w' ⟨rfl, rfl⟩)
            go_roundg (gk - 1)
            case measure => omega
            case rel => exact ⟨j + 1, by omega, by go_num, HS.out _ HM.out, hbel.setCell (Nat.le_refl _) _⟩
        · have hq1 : (((sh[j]'h1).toNat : Int) == 57) = false := by simp; omega
          have HM : Hid ((s[j]'hlt).toNat = msk s sh j) := by unfold Hid; simp [msk, ← HB.out, ← HC.out, h57]
          go_wp2
          go_roundg (gk - 1)
          case measure => omega
          case rel => exact ⟨j + 1, by omega, by go_num, HS.out _ HM.out, hbel.setCell (Nat.le_refl _) _⟩
      · have hq0 : decide ((j : Int) < (sh.size : Int)) = false := by simp; omega
        have HM : Hid ((s[j]'hlt).toNat = msk s sh j) := by unfold Hid; simp [msk, h1, ← HB.out]
        go_wp2
        go_roundg (gk - 1)
        case measure => omega
        case rel => exact ⟨j + 1, by omega, by go_num, HS.out _ HM.out, hbel.setCell (Nat.le_refl _) _⟩
    · obtain rfl : s.size = j := by omega
      have hcv := fun n => masked_string s sh w.heap.size (wr.drewN n) (hrow.congr fun i hi => by rw [if_pos hi])
      go_wp2
      go_quiet ((go_at_call 9; exact Calls.quiet_of (zzshaped_any s sh _ (by omega) (by omega))))
      go_wp2
      go_ret
      exact ⟨ret_bool (law_eq s sh), below_drewN hbel _⟩

theorem law_walk (s sh : ByteArray) (hs : s.size ≤ maxLen) (hsh : sh.size ≤ maxLen) (w : World) :
    Calls Try.prog 3 #[.string s, .string sh] w fun e w' => e = .returned (.bool true) ∧ Below w.heap.size w w' := by
  unfold maxLen at hs hsh
  by_cases h : s.size + sh.size ≤ 1048576
  · by_cases h1 : s.size ≤ 524288
    · by_cases h2 : sh.size ≤ 524288
      · exact law_short s sh w h1 h2
      · have g1 : decide ((524288 : Int) < (s.size : Int)) = false := by simp; omega
        have g2 : decide ((524288 : Int) < (sh.size : Int)) = true := by simp; omega
        go_enter Try.func3, Try.ntmps3
        go_wp2_with (go_at_call 7; refine (guard7 s sh w h).mono ?_; rintro e w' ⟨rfl, rfl⟩)
        go_ret
        exact ⟨rfl, Below.refl _ _⟩
    · have g1 : decide ((524288 : Int) < (s.size : Int)) = true := by simp; omega
      go_enter Try.func3, Try.ntmps3
      go_wp2_with (go_at_call 7; refine (guard7 s sh w h).mono ?_; rintro e w' ⟨rfl, rfl⟩)
      go_ret
      exact ⟨rfl, Below.refl _ _⟩
  · go_enter Try.func3, Try.ntmps3
    go_wp2_with (go_at_call 7; refine (guard7_no s sh w (by omega) (by omega) (by omega)).mono ?_; rintro e w' ⟨rfl, rfl⟩)
    go_ret
    exact ⟨rfl, Below.refl _ _⟩

end Go.Proofs.Qxb6601656a
