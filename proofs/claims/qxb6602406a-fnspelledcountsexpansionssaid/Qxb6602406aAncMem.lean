/-
  Seat b6602406a: texts in memory, as the law's functions read them.
-/
import Derived.Test.Qxb6602406aSmall
import Derived.Test.Qxb6602406aOwn
import Derived.Deep.QuietTactic
import Derived.BigQuiet
namespace Go.Proofs.Qxb6602406a
open Go.RowKit

/-- What a list of texts says: text i has m i pieces, S i k; is it exact; its anchor, length, before. -/
structure Desc where
  m : Nat → Nat
  S : Nat → Nat → ByteArray
  ex : Nat → Bool
  an : Nat → Int
  ln : Nat → Int
  bf : Nat → Int

/-- The pieces of one text, wherever they lie. -/
def Pcs (w : World) (A : Option Addr) (m : Nat) (S : Nat → ByteArray) : Prop :=
  m = 0 ∨ ∃ b o, A = some ⟨b, o, none⟩ ∧ ∀ k, k < m → w.cell? ⟨b, o + k, none⟩ = some (.string (S k))

/-- The texts themselves: five cells each. -/
def TextRow (w : World) (b o n : Nat) (D : Desc) : Prop :=
  ∀ i, i < n → ∃ A c, w.cell? ⟨b, o + i * 5, none⟩ = some (.slice A (D.m i) c) ∧ w.cell? ⟨b, o + i * 5 + 1, none⟩ = some (.bool (D.ex i)) ∧ w.cell? ⟨b, o + i * 5 + 2, none⟩ = some (.int .i64 (D.an i)) ∧
    w.cell? ⟨b, o + i * 5 + 3, none⟩ = some (.int .i64 (D.ln i)) ∧ w.cell? ⟨b, o + i * 5 + 4, none⟩ = some (.int .i64 (D.bf i)) ∧ (A = none → D.m i = 0) ∧ Pcs w A (D.m i) (D.S i)

/-- A slice of texts: none, or a row of them. -/
def Texts (w : World) (ao : Option Addr) (n : Nat) (D : Desc) : Prop := n = 0 ∨ ∃ b o, ao = some ⟨b, o, none⟩ ∧ TextRow w b o n D

/-- Each length is at most 2^20. -/
def Lens (n : Nat) (D : Desc) : Prop := n ≤ 1048576 ∧ ∀ i, i < n → D.m i ≤ 1048576 ∧ ∀ k, k < D.m i → (D.S i k).size ≤ 1048576

theorem cell_below {w w' : World} {a : Addr} {v : Value} (hb : Below w.heap.size w w') (h : w.cell? a = some v) : w'.cell? a = some v := (hb.cell (World.block_lt_of_cell? w a h)).trans h

theorem Pcs.below {w w' : World} {A : Option Addr} {m : Nat} {S : Nat → ByteArray} (h : Pcs w A m S) (hb : Below w.heap.size w w') : Pcs w' A m S := by
  rcases h with h | ⟨b, o, h1, h2⟩
  · exact .inl h
  · exact .inr ⟨b, o, h1, fun k hk => cell_below hb (h2 k hk)⟩
theorem TextRow.below {w w' : World} {b o n : Nat} {D : Desc} (h : TextRow w b o n D) (hb : Below w.heap.size w w') : TextRow w' b o n D := by
  intro i hi
  obtain ⟨A, c, h0, h1, h2, h3, h4, h5, h6⟩ := h i hi
  exact ⟨A, c, cell_below hb h0, cell_below hb h1, cell_below hb h2, cell_below hb h3, cell_below hb h4, h5, h6.below hb⟩
theorem Texts.below {w w' : World} {ao : Option Addr} {n : Nat} {D : Desc} (h : Texts w ao n D) (hb : Below w.heap.size w w') : Texts w' ao n D := by
  rcases h with h | ⟨b, o, h1, h2⟩
  · exact .inl h
  · exact .inr ⟨b, o, h1, h2.below hb⟩
theorem Texts.row {w : World} {ao : Option Addr} {n : Nat} {D : Desc} (h : Texts w ao n D) (hn : 0 < n) : ∃ b o, ao = some ⟨b, o, none⟩ ∧ TextRow w b o n D := by
  rcases h with h | h
  · omega
  · exact h
theorem Pcs.row {w : World} {A : Option Addr} {m : Nat} {S : Nat → ByteArray} (h : Pcs w A m S) (hm : 0 < m) : ∃ b o, A = some ⟨b, o, none⟩ ∧ ∀ k, k < m → w.cell? ⟨b, o + k, none⟩ = some (.string (S k)) := by
  rcases h with h | h
  · omega
  · exact h

set_option maxRecDepth 100000 in
set_option maxHeartbeats 1000000 in
/-- The guard on lengths. -/
theorem guard22 (ao : Option Addr) (n cap : Nat) (D : Desc) (w : World) (hT : Texts w ao n D) (hn : n ≤ 9223372036854775807) (hm : ∀ i, i < n → D.m i ≤ 9223372036854775807) (hs : ∀ i k, i < n → k < D.m i → (D.S i k).size ≤ 9223372036854775807) :
    Calls Try.prog 22 #[.slice ao n cap] w fun e w' => ∃ b, e = .returned (.bool b) ∧ (b = true → Lens n D) ∧ w = w' := by
  have HM : Hid (∀ i, i < n → D.m i ≤ 9223372036854775807) := hm
  have HS : Hid (∀ i k, i < n → k < D.m i → (D.S i k).size ≤ 9223372036854775807) := hs
  clear hm hs
  by_cases hbig : 1048576 < n
  · go_enter Try.func22, Try.ntmps22
    go_wp2
    go_ret
    exact ⟨false, rfl, (fun h => by cases h), rfl⟩
  · go_enter Try.func22, Try.ntmps22
    go_wp2
    go_loopg [3, 4] n (fun k z i w' => ∃ (j Z : Nat), j + k = n ∧ i = .int .i64 j ∧ z = .int .i64 Z ∧ Z ≤ 1048576 ∧ Hid (∀ i, i < j → D.m i ≤ 1048576 ∧ ∀ k, k < D.m i → (D.S i k).size ≤ 1048576) ∧ w = w')
    case atStart => exact ⟨0, n, by omega, rfl, rfl, by omega, fun i hi => by omega, rfl⟩
    case round =>
      obtain ⟨j, Z, hj, rfl, rfl, hZ, HA, rfl⟩ := hrel
      by_cases hlt : j < n
      · obtain ⟨b, o, rfl, hrow⟩ := hT.row (by omega)
        obtain ⟨A, c, c0, _, _, _, _, _, hP⟩ := hrow j hlt
        have HP : Hid (Pcs w A (D.m j) (D.S j)) := hP
        have HT : Hid (TextRow w b o n D) := hrow
        have hmj := HM.out j hlt
        clear hP hrow hT
        by_cases hm1 : 1048576 < D.m j
        · go_wp2
          go_ret
          exact ⟨false, rfl, (fun h => by cases h), rfl⟩
        · by_cases hm2 : 1048576 < Z + D.m j
          · go_wp2
            go_ret
            exact ⟨false, rfl, (fun h => by cases h), rfl⟩
          · go_wp2
            go_loopg [3, 5] (D.m j) (fun k z i w' => ∃ (q Y : Nat), q + k = D.m j ∧ i = .int .i64 q ∧ z = .int .i64 Y ∧ Y ≤ 1048576 ∧ Hid (∀ k, k < q → (D.S j k).size ≤ 1048576) ∧ w = w')
            case atStart => exact ⟨0, Z + D.m j, by omega, rfl, by go_num, by omega, fun k hk => by omega, rfl⟩
            case round =>
              obtain ⟨q, Y, hq, rfl, rfl, hY, HB, rfl⟩ := hrel
              by_cases hqm : q < D.m j
              · obtain ⟨pb, po, rfl, hpc⟩ := HP.out.row (by omega)
                have cq := hpc q hqm
                have hsz := HS.out j q hlt hqm
                clear hpc
                by_cases hs1 : 1048576 < (D.S j q).size
                · go_wp2
                  go_ret
                  exact ⟨false, rfl, (fun h => by cases h), rfl⟩
                · by_cases hs2 : 1048576 < Y + (D.S j q).size
                  · go_wp2
                    go_ret
                    exact ⟨false, rfl, (fun h => by cases h), rfl⟩
                  · have HB' : Hid (∀ k, k < q + 1 → (D.S j k).size ≤ 1048576) := fun k hk => by
                      by_cases e : k = q
                      · subst e; omega
                      · exact HB.out k (by omega)
                    go_wp2
                    go_roundg (gk - 1)
                    case measure => omega
                    case rel => exact ⟨q + 1, Y + (D.S j q).size, by omega, by go_num, by go_num, by omega, HB', rfl⟩
              · have HA' : Hid (∀ i, i < j + 1 → D.m i ≤ 1048576 ∧ ∀ k, k < D.m i → (D.S i k).size ≤ 1048576) := fun i hi => by
                  by_cases e : i = j
                  · subst e; exact ⟨by omega, fun k hk => HB.out k (by omega)⟩
                  · exact HA.out i (by omega)
                go_wp2
                go_roundg (n - (j + 1))
                case measure => omega
                case rel => exact ⟨j + 1, Y, by omega, by go_num, rfl, hY, HA', rfl⟩
      · obtain rfl : n = j := by omega
        go_wp2
        go_ret
        exact ⟨true, rfl, fun _ => ⟨by omega, HA.out⟩, rfl⟩

/-- The bytes of the first k pieces of text i. -/
def lensUp (D : Desc) (i : Nat) : Nat → Nat
  | 0 => 0
  | k + 1 => lensUp D i k + (D.S i k).size
/-- The cost of the first i texts, as anchorBytes counts. -/
def cost (D : Desc) : Nat → Nat
  | 0 => 0
  | i + 1 => cost D i + (64 + 16 * D.m i) + lensUp D i (D.m i)

set_option maxRecDepth 100000 in
set_option maxHeartbeats 1000000 in
theorem anchorBytes_any (ao : Option Addr) (n cap : Nat) (D : Desc) (w : World) (hT : Texts w ao n D) (hL : Lens n D) :
    Calls Try.prog 23 #[.slice ao n cap, .int .i64 65536] w fun e w' => ∃ r : Int, e = .returned (.int .i64 r) ∧ (r ≤ 65536 → r = (cost D n : Int)) ∧ w = w' := by
  have HL : Hid (∀ i, i < n → D.m i ≤ 1048576 ∧ ∀ k, k < D.m i → (D.S i k).size ≤ 1048576) := hL.2
  have hn := hL.1
  clear hL
  go_enter Try.func23, Try.ntmps23
  go_wp2
  go_loopg [5, 6] n (fun k z i w' => ∃ (j Z : Nat), j + k = n ∧ i = .int .i64 j ∧ z = .int .i64 Z ∧ Z ≤ 65536 ∧ Hid (Z = cost D j) ∧ w = w')
  case atStart => exact ⟨0, 0, by omega, rfl, rfl, by omega, rfl, rfl⟩
  case round =>
    obtain ⟨j, Z, hj, rfl, rfl, hZ, HA, rfl⟩ := hrel
    by_cases hlt : j < n
    · obtain ⟨b, o, rfl, hrow⟩ := hT.row (by omega)
      obtain ⟨A, c, c0, _, _, _, _, _, hP⟩ := hrow j hlt
      have HP : Hid (Pcs w A (D.m j) (D.S j)) := hP
      have hmj := (HL.out j hlt).1
      clear hP hrow hT
      by_cases hm1 : 65536 < Z + (64 + 16 * D.m j)
      · go_wp2
        go_ret
        exact ⟨_, rfl, (fun h => by omega), rfl⟩
      · go_wp2
        go_loopg [5, 7] (D.m j) (fun k z i w' => ∃ (q Y : Nat), q + k = D.m j ∧ i = .int .i64 q ∧ z = .int .i64 Y ∧ Y ≤ 65536 ∧ Hid (Y = cost D j + (64 + 16 * D.m j) + lensUp D j q) ∧ w = w')
        case atStart => exact ⟨0, Z + (64 + 16 * D.m j), by omega, rfl, by go_num, by omega, by rw [HA.out]; rfl, rfl⟩
        case round =>
          obtain ⟨q, Y, hq, rfl, rfl, hY, HB, rfl⟩ := hrel
          by_cases hqm : q < D.m j
          · obtain ⟨pb, po, rfl, hpc⟩ := HP.out.row (by omega)
            have cq := hpc q hqm
            have hsz := (HL.out j hlt).2 q hqm
            clear hpc
            by_cases hs2 : 65536 < Y + (D.S j q).size
            · go_wp2
              go_ret
              exact ⟨_, rfl, (fun h => by omega), rfl⟩
            · have HB' : Hid (Y + (D.S j q).size = cost D j + (64 + 16 * D.m j) + lensUp D j (q + 1)) := by
                unfold Hid; have := HB.out; simp only [lensUp]; omega
              go_wp2
              go_roundg (gk - 1)
              case measure => omega
              case rel => exact ⟨q + 1, Y + (D.S j q).size, by omega, by go_num, by go_num, by omega, HB', rfl⟩
          · obtain rfl : D.m j = q := by omega
            have HA' : Hid (Y = cost D (j + 1)) := HB.out
            go_wp2
            go_roundg (n - (j + 1))
            case measure => omega
            case rel => exact ⟨j + 1, Y, by omega, by go_num, rfl, hY, HA', rfl⟩
    · obtain rfl : n = j := by omega
      go_wp2
      go_ret
      exact ⟨_, rfl, (fun _ => by rw [HA.out]), rfl⟩

end Go.Proofs.Qxb6602406a
