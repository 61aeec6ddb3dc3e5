/-
  Seat b6602506a: the walk of FnQuotedEndFindsEscapedLiteralEnd.
-/
import Derived.Test.Qxb6602506aPrefix
import Derived.Test.Qxb6602506aEscMath
import Derived.Lib.AppendStr
import Derived.OpenShut
namespace Go.Proofs.Qxb6602506a
open Go.RowKit

theorem Try.info5 : (Try.prog.info? 5).map (fun i => (i.zero, i.size, i.bytes)) = some (some (.int .u8 0), 1, 1) := by kernel_rfl

theorem guard10 (o : Int) (s t : ByteArray) (w : World) (h : s.size + t.size ≤ 1048576) :
    Calls Try.prog 10 #[.int .u8 o, .string s, .string t] w fun e w' => e = .returned (.bool true) ∧ w = w' := by
  go_enter Try.func10, Try.ntmps10
  go_wp2
  go_ret
  exact ⟨rfl, rfl⟩
theorem guard10_no (o : Int) (s t : ByteArray) (w : World) (h : 1048576 < s.size + t.size) (hs : s.size ≤ 9223372036854775807) (ht : t.size ≤ 9223372036854775807) :
    Calls Try.prog 10 #[.int .u8 o, .string s, .string t] w fun e w' => e = .returned (.bool false) ∧ w = w' := by
  by_cases h1 : 1048576 < s.size
  · go_enter Try.func10, Try.ntmps10
    go_wp2
    go_ret
    exact ⟨rfl, rfl⟩
  · by_cases h2 : 1048576 < t.size
    · go_enter Try.func10, Try.ntmps10
      go_wp2
      go_ret
      exact ⟨rfl, rfl⟩
    · go_enter Try.func10, Try.ntmps10
      go_wp2
      go_ret
      exact ⟨rfl, rfl⟩

/-- The bytes that the buffer holds. -/
def cellsOf (ns : List Nat) : List Value := ns.map fun n : Nat => Value.int .u8 (n : Int)

/-- The buffer: what it owns; nothing that was there has turned. -/
structure Buf (w wr : World) (v : Value) (ns : List Nat) : Prop where
  own : wr.ownsRow w.heap.size 5 1 v ns.length (cellsOf ns)
  bel : Below w.heap.size w wr

theorem Buf.step {w wr w1 : World} {v v' : Value} {ns : List Nat} {o : Obj} {x : Nat} (h : Buf w wr v ns) (hown : w1.ownsRow w.heap.size 5 1 v' (ns.length + 1) (cellsOf ns ++ [.int .u8 (x : Int)])) (hg : (wr.alloc o).grownBy w1 v.ownBlock) : Buf w w1 v' (ns ++ [x]) := by
  refine ⟨?_, ?_⟩
  · have e : cellsOf (ns ++ [x]) = cellsOf ns ++ [.int .u8 (x : Int)] := by simp [cellsOf]
    rw [e, List.length_append]
    exact hown
  · exact (h.bel.alloc h.bel.size _).grown hg (by simp; have := h.bel.size; omega) (fun k hk => (World.ownsRow.lt h.own k hk).1)

/-- The first j bytes of s. -/
def bs (s : ByteArray) (j : Nat) : List Nat := (List.range j).map (byte s)
theorem bs_succ (s : ByteArray) (j : Nat) : bs s (j + 1) = bs s j ++ [byte s j] := by simp [bs, List.range_succ]
/-- What the buffer holds behind j rounds. -/
def text (o : Nat) (s : ByteArray) (j : Nat) : List Nat := o :: (bs s j).flatMap escB
theorem text_succ (o : Nat) (s : ByteArray) (j : Nat) : text o s (j + 1) = text o s j ++ escB (byte s j) := by simp [text, bs_succ]
theorem escB_len (c : Nat) : (escB c).length ≤ 2 := by unfold escB; split <;> simp
theorem text_len (o : Nat) (s : ByteArray) (j : Nat) : (text o s j).length ≤ 2 * j + 1 := by
  induction j with
  | zero => simp [text, bs]
  | succ j ih => rw [text_succ, List.length_append]; have := escB_len (byte s j); omega

/-- 'b = append(b, x)': the byte lies in a block of its own first. -/
theorem append_byte {w wr : World} {v : Value} {ns : List Nat} (hB : Buf w wr v ns) (x : Nat) (hl : ns.length ≤ 4194304) {ops : Array Oper} {rest : List Oper} {o : Oper} {a : Act} {Q : Exit → Act → World → Prop} (hgd : o.guard = none) (s y : Operand)
    (ho : o.op = .call { callee := .builtin .append, args := #[s, y], argTypes := #[26, 26] }) (hs : a.eval s = v) (hy : a.eval y = .slice (some ⟨wr.heap.size, 0, none⟩) 1 1)
    (h : ∀ v' w1, Buf w w1 v' (ns ++ [x]) → wpList Try.prog ops Q rest (a.put o.dst v') w1) : wpList Try.prog ops Q (o :: rest) a (wr.alloc (.cells #[.int .u8 (x : Int)] 5)) := by
  obtain ⟨i5, hi, hz0, hz1, hz2⟩ := info_parts Try.info5
  refine wpList_append_own _ hgd s y 26 ho w.heap.size 5 i5 (.int .u8 0) 1 1 Try.underlying26 hi hz0 hz1 hz2 rfl (by decide) v ns.length (cellsOf ns) hs (World.ownsRow.alloc hB.own _) ⟨wr.heap.size, 0, none⟩ 1 1 [.int .u8 (x : Int)] hy rfl ?_ ?_ ?_ ?_ ?_ ?_
  · intro t u ht
    match t, ht with
    | 0, ht => simp at ht; subst ht; simp [Addr.add]
  · intro u hu; simp at hu; subst hu; rfl
  · unfold maxLen; omega
  · omega
  · simp; have := hB.bel.size; omega
  · intro v' w1 hown hg _
    exact h v' w1 (hB.step hown hg)

theorem Buf.form {w wr : World} {v : Value} {ns : List Nat} (h : Buf w wr v ns) (h0 : 0 < ns.length) : ∃ g cap, v = .slice (some ⟨g, 0, none⟩) ns.length cap := by
  rcases h.own.2 with ⟨_, h'⟩ | ⟨g, cap, cur, rfl, _⟩
  · omega
  · exact ⟨g, cap, rfl⟩

theorem byte_lt (s : ByteArray) (i : Nat) : byte s i < 256 := by
  unfold byte
  split
  · exact UInt8.toNat_lt _
  · omega

theorem strCells_bs (t : ByteArray) : Lib.strCells t = cellsOf (bs t t.size) := by
  apply List.ext_getElem?
  intro i
  by_cases h : i < t.size
  · have h' : i < t.data.toList.length := by simpa using h
    simp only [Lib.strCells, cellsOf, bs, List.getElem?_map, List.getElem?_range, h, List.getElem?_eq_getElem h', Option.map_some]
    rw [← byte_at t i h]
    rfl
  · have h' : ¬ i < t.data.toList.length := by simpa using h
    simp only [Lib.strCells, cellsOf, bs, List.getElem?_map]
    rw [List.getElem?_eq_none (by omega), List.getElem?_eq_none (by simp; omega)]
    rfl

theorem Buf.stepString {w wr w1 : World} {v v' : Value} {ns : List Nat} {t : ByteArray} (h : Buf w wr v ns) (hown : w1.ownsRow w.heap.size 5 1 v' (ns.length + t.size) (cellsOf ns ++ Lib.strCells t)) (hg : wr.grownBy w1 v.ownBlock) : Buf w w1 v' (ns ++ bs t t.size) := by
  refine ⟨?_, ?_⟩
  · have e : cellsOf (ns ++ bs t t.size) = cellsOf ns ++ Lib.strCells t := by rw [strCells_bs]; simp [cellsOf]
    rw [e, List.length_append, show (bs t t.size).length = t.size by simp [bs]]
    exact hown
  · exact h.bel.grown hg h.bel.size (fun k hk => (World.ownsRow.lt h.own k hk).1)

/-- The string of a list of bytes. -/
def strOf (ns : List Nat) : ByteArray := ⟨(ns.map fun n => UInt8.ofNat n).toArray⟩

theorem foldl_push (l : List Nat) : ∀ acc : ByteArray, (l.map fun n : Nat => (n : Int)).foldl (fun r n => r.push (UInt8.ofNat n.toNat)) acc = ⟨acc.data ++ (l.map fun n => UInt8.ofNat n).toArray⟩ := by
  induction l with
  | nil => intro acc; simp
  | cons a l ih =>
    intro acc
    simp only [List.map_cons, List.foldl_cons]
    rw [ih]
    simp [ByteArray.push]

theorem strOf_size (ns : List Nat) : (strOf ns).size = ns.length := by
  show (ns.map fun n => UInt8.ofNat n).toArray.size = _
  simp
theorem byte_strOf (ns : List Nat) (h : ∀ n ∈ ns, n < 256) (i : Nat) (hi : i < ns.length) : byte (strOf ns) i = ns.getD i 0 := by
  rw [← byte_at (strOf ns) i (by rw [strOf_size]; exact hi)]
  have h1 := h ns[i] (List.getElem_mem hi)
  have h2 : (strOf ns)[i]'(by rw [strOf_size]; exact hi) = UInt8.ofNat ns[i] := by
    show (ns.map fun n => UInt8.ofNat n).toArray[i]'(by simpa using hi) = _
    rw [List.getElem_toArray, List.getElem_map]
  rw [h2]
  simp [List.getD, hi, Nat.mod_eq_of_lt h1]

theorem Buf.string {w wr : World} {g cap : Nat} {ns : List Nat} (h : Buf w wr (.slice (some ⟨g, 0, none⟩) ns.length cap) ns) :
    (convert 26 9 (.slice (some ⟨g, 0, none⟩) ns.length cap)).run Try.prog wr = .ok (.string (strOf ns)) wr := by
  rw [run_convert_bytes_string wr 26 9 5 _ _ _ Try.underlying26 Try.underlying5 Try.underlying9]
  have hl := run_loadCells_list (P := Try.prog) wr ⟨g, 0, none⟩ (cellsOf ns) (World.ownsRow.cells h.own rfl)
  have e1 : (cellsOf ns).length = ns.length := by simp [cellsOf]
  have e2 : cellsOf ns = (ns.map fun n : Nat => (n : Int)).map (Value.int .u8) := by simp [cellsOf]
  rw [e1, e2] at hl
  rw [run_bytesToString wr ⟨g, 0, none⟩ ns.length cap _ hl, foldl_push]
  simp [strOf, ByteArray.empty, ByteArray.emptyWithCapacity]
  rfl

/-- The whole text's end. -/
theorem text_end (o : Nat) (s t : ByteArray) (ho : o < 256) :
    qend (byte (strOf (text o s s.size ++ [34] ++ bs t t.size))) (strOf (text o s s.size ++ [34] ++ bs t t.size)).size = (((text o s s.size ++ [34]).length : Nat) : Int) := by
  have e : text o s s.size ++ [34] ++ bs t t.size = o :: ((bs s s.size).flatMap escB ++ 34 :: bs t t.size) := by simp [text]
  rw [strOf_size, e]
  rw [qend_esc (byte (strOf (o :: ((bs s s.size).flatMap escB ++ 34 :: bs t t.size)))) o (bs s s.size) (bs t t.size) (fun i hi => byte_strOf _ (fun n hn => by
    simp only [List.mem_cons, List.mem_append, List.mem_flatMap, bs, List.mem_map] at hn
    rcases hn with rfl | ⟨c, ⟨i, _, rfl⟩, hc⟩ | rfl | ⟨i, _, rfl⟩
    · exact ho
    · have := byte_lt s i
      unfold escB at hc
      split at hc
      · simp at hc; omega
      · simp at hc; omega
    · omega
    · exact byte_lt t i) i hi)]
  simp [text]
  omega

set_option maxRecDepth 100000 in
set_option maxHeartbeats 1000000 in
theorem esc_short (o : Nat) (s t : ByteArray) (w : World) (ho : o < 256) (hs : s.size ≤ 524288) (ht : t.size ≤ 524288) :
    Calls Try.prog 5 #[.int .u8 (o : Int), .string s, .string t] w fun e w' => e = .returned (.bool true) ∧ Below w.heap.size w w' := by
  obtain ⟨i5, hi, hz0, hz1, hz2⟩ := info_parts Try.info5
  have g1 : decide ((524288 : Int) < (s.size : Int)) = false := by simp; omega
  have g2 : decide ((524288 : Int) < (t.size : Int)) = false := by simp; omega
  have g3 : decide ((1048576 : Int) < (s.size : Int) + (t.size : Int)) = false := by simp; omega
  go_enter Try.func5, Try.ntmps5
  go_wp2_with (first | (go_at_call 10; refine (guard10 (o : Int) s t w (by omega)).mono ?_; rintro e w' ⟨rfl, rfl⟩) | (at_make; refine wpList_make_own _ rfl _ _ 26 rfl w.heap.size 5 i5 (.int .u8 0) 1 Try.underlying26 hi hz0 hz1 _ _ _ (2 + 2 * s.size + t.size) rfl rfl (by omega) ?b2 ?b3 (Nat.le_refl _) ?_))
  case b2 => rw [hz2]; omega
  case b3 => unfold maxLen; omega
  intro w0 hown0 hgrow0
  have hB0 : Buf w w0 (.slice (some ⟨w.heap.size, 0, none⟩) 0 (2 + 2 * s.size + t.size)) [] := ⟨hown0, (Below.refl _ _).grown hgrow0 (Nat.le_refl _) (fun k h => by cases h)⟩
  clear hown0 hgrow0
  go_wp2_with (at_builtin; refine append_byte hB0 o (by simp) rfl (.tmp 40) (.tmp 42) rfl rfl rfl ?_; intro v1 w1 hB1)
  go_loopg [7, 8] s.size (fun k v i w' => ∃ (j : Nat), j + k = s.size ∧ i = .int .i64 j ∧ Buf w w' v (text o s j))
  case atStart => exact ⟨0, by omega, rfl, hB1⟩
  case round =>
    obtain ⟨j, hj, rfl, hB⟩ := hrel
    rename Value => v
    by_cases hlt : j < s.size
    · have hl := text_len o s j
      have HB : Hid ((s[j]'hlt).toNat = byte s j) := byte_at s j hlt
      by_cases h34 : (s[j]'hlt).toNat = 34
      · have HT : Hid (text o s (j + 1) = text o s j ++ [92] ++ [34]) := by unfold Hid; rw [text_succ, ← HB.out, h34]; simp [escB]
        have hq1 : (((s[j]'hlt).toNat : Int) == 34) = true := by simp [h34]
        go_wp2_with (first | (at_builtin; refine append_byte hB 92 (by omega) rfl (.tmp 59) (.tmp 60) rfl rfl rfl ?_; intro v1 w1 hB1) | (at_builtin; refine append_byte hB1 34 (by simp; omega) rfl (.tmp 62) (.tmp 64) rfl rfl rfl ?_; intro v2 w2 hB2))
        go_roundg (gk - 1)
        case measure => omega
        case rel => exact ⟨j + 1, by omega, by go_num, by rw [HT.out]; exact hB2⟩
      · have hq1 : (((s[j]'hlt).toNat : Int) == 34) = false := by simp; omega
        by_cases h92 : (s[j]'hlt).toNat = 92
        · have HT : Hid (text o s (j + 1) = text o s j ++ [92] ++ [92]) := by unfold Hid; rw [text_succ, ← HB.out, h92]; simp [escB]
          have hq2 : (((s[j]'hlt).toNat : Int) == 92) = true := by simp [h92]
          go_wp2_with (first | (at_builtin; refine append_byte hB 92 (by omega) rfl (.tmp 59) (.tmp 60) rfl rfl rfl ?_; intro v1 w1 hB1) | (at_builtin; refine append_byte hB1 92 (by simp; omega) rfl (.tmp 62) (.tmp 64) rfl rfl rfl ?_; intro v2 w2 hB2))
          go_roundg (gk - 1)
          case measure => omega
          case rel => exact ⟨j + 1, by omega, by go_num, by rw [HT.out]; exact hB2⟩
        · have hq2 : (((s[j]'hlt).toNat : Int) == 92) = false := by simp; omega
          have HT : Hid (text o s (j + 1) = text o s j ++ [(s[j]'hlt).toNat]) := by unfold Hid; rw [text_succ, ← HB.out]; simp [escB, h34, h92]
          go_wp2_with (at_builtin; refine append_byte hB (s[j]'hlt).toNat (by omega) rfl (.tmp 62) (.tmp 64) rfl rfl rfl ?_; intro v1 w1 hB1)
          go_roundg (gk - 1)
          case measure => omega
          case rel => exact ⟨j + 1, by omega, by go_num, by rw [HT.out]; exact hB1⟩
    · obtain rfl : s.size = j := by omega
      have hl := text_len o s s.size
      have hend := text_end o s t ho
      obtain ⟨n1, H1⟩ : ∃ n1, Hid (n1 = text o s s.size ++ [34]) := ⟨text o s s.size ++ [34], rfl⟩
      have h1l : 0 < n1.length ∧ n1.length ≤ 2097152 := by rw [H1.out]; simp; omega
      obtain ⟨n2, H2⟩ : ∃ n2, Hid (n2 = n1 ++ bs t t.size) := ⟨n1 ++ bs t t.size, rfl⟩
      have h2l : 0 < n2.length ∧ n2.length ≤ 4194304 := by rw [H2.out]; simp [bs]; omega
      have HZ : Hid (qend (byte (strOf n2)) (strOf n2).size = (n1.length : Int)) := by unfold Hid; rw [H2.out, H1.out]; exact hend
      have HS : Hid ((strOf n2).size ≤ 4194304) := by unfold Hid; rw [strOf_size]; exact h2l.2
      obtain ⟨h1a, h1b⟩ := h1l
      obtain ⟨h2a, h2b⟩ := h2l
      clear hend
      go_wp2_with (first
        | (at_builtin; refine append_byte hB 34 (by omega) rfl (.tmp 66) (.tmp 67) rfl rfl rfl ?_; intro v1 w1 hB1; rw [← H1.out] at hB1; obtain ⟨g, cap, hv⟩ := hB1.form h1a; subst hv)
        | (at_builtin; refine Lib.wpList_append_own_string _ rfl (.tmp 71) (.tmp 72) 26 9 rfl w.heap.size 5 i5 Try.underlying26 Try.underlying9 hi hz0 hz1 hz2 _ n1.length (cellsOf n1) rfl hB1.own t rfl (by unfold maxLen; omega) (by omega) hB1.bel.size ?_; intro v2 w2 hown2 hg2 _; have hB2 := hB1.stepString hown2 hg2; rw [← H2.out] at hB2; obtain ⟨g2, cap2, hv2⟩ := hB2.form h2a; subst hv2; have hcv := hB2.string)
        | (go_at_call 7; refine (zz_gen (strOf n2) w2 _ HS.out HZ).mono ?_; rintro e w3 ⟨rfl, rfl⟩))
      go_ret
      exact ⟨by simp, hB2.bel⟩

theorem esc_walk (o : Int) (s t : ByteArray) (ho : (Lit.int .u8 o).wf = true) (hs : s.size ≤ maxLen) (ht : t.size ≤ maxLen) (w : World) :
    Calls Try.prog 5 #[.int .u8 o, .string s, .string t] w fun e w' => e = .returned (.bool true) ∧ Below w.heap.size w w' := by
  unfold maxLen at hs ht
  by_cases h : s.size + t.size ≤ 1048576
  · by_cases h1 : s.size ≤ 524288
    · by_cases h2 : t.size ≤ 524288
      · obtain ⟨b1, b2⟩ := bounds_u8 ho
        obtain ⟨n, rfl⟩ : ∃ n : Nat, o = n := ⟨o.toNat, by omega⟩
        exact esc_short n s t w (by omega) h1 h2
      · have g1 : decide ((524288 : Int) < (s.size : Int)) = false := by simp; omega
        have g2 : decide ((524288 : Int) < (t.size : Int)) = true := by simp; omega
        go_enter Try.func5, Try.ntmps5
        go_wp2_with (go_at_call 10; refine (guard10 o s t w h).mono ?_; rintro e w' ⟨rfl, rfl⟩)
        go_ret
        exact ⟨rfl, Below.refl _ _⟩
    · have g1 : decide ((524288 : Int) < (s.size : Int)) = true := by simp; omega
      go_enter Try.func5, Try.ntmps5
      go_wp2_with (go_at_call 10; refine (guard10 o s t w h).mono ?_; rintro e w' ⟨rfl, rfl⟩)
      go_ret
      exact ⟨rfl, Below.refl _ _⟩
  · go_enter Try.func5, Try.ntmps5
    go_wp2_with (go_at_call 10; refine (guard10_no o s t w (by omega) (by omega) (by omega)).mono ?_; rintro e w' ⟨rfl, rfl⟩)
    go_ret
    exact ⟨rfl, Below.refl _ _⟩

end Go.Proofs.Qxb6602506a
