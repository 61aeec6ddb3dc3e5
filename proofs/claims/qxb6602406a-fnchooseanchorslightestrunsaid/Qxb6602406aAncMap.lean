/-
  Seat b6602406a: a map from strings to pointers that the call itself made, by a plain function; the walk of size.
-/
import Derived.Test.Qxb6602406aAncPer
import Derived.Maps.Own
import Derived.Maps.OwnOps
import Derived.Maps.OwnSet
import Derived.Maps.Views
import Derived.Deep.RegionWith
namespace Go.Proofs.Qxb6602406a
open Go.RowKit
open Go.Maps (Keyed IsMap)
open Go.ChangeMaps Go.MapKept

/-- How an element reads: the number of the block to which it points; -1 for nil. -/
def ptrElem (v : Value) : Option (DataW Unit × List MemPlace) :=
  match v with
  | .pointer none => some (.lit (.int .i64 (-1)), [])
  | .pointer (some ⟨b, 0, none⟩) => some (.lit (.int .i64 (b : Int)), [])
  | _ => none

def ptr (o : Option Nat) : Value := match o with | none => .pointer none | some b => .pointer (some ⟨b, 0, none⟩)
def num (o : Option Nat) : Int := match o with | none => -1 | some b => (b : Int)

theorem ptrElem_ptr (o : Option Nat) : ptrElem (ptr o) = some (.lit (.int .i64 (num o)), []) := by cases o <;> rfl
theorem ptrElem_inv {v : Value} {z : Int} {ps : List MemPlace} (o : Option Nat) (h : ptrElem v = some (.lit (.int .i64 z), ps)) (hz : z = num o) : v = ptr o := by
  unfold ptrElem at h
  split at h
  · simp at h; obtain ⟨h1, _⟩ := h
    cases o with
    | none => rfl
    | some b => rw [hz] at h1; simp only [num] at h1; omega
  · rename_i b
    simp at h; obtain ⟨h1, _⟩ := h
    cases o with
    | none => rw [hz] at h1; simp only [num] at h1; omega
    | some b' =>
      rw [hz] at h1; simp only [num] at h1
      obtain rfl : b = b' := by omega
      rfl
  · cases h

theorem strKey {s : ByteArray} (hs : s.size ≤ maxLen) : keyOf Try.prog 9 (.string s) = some (.string s.data.toList) := WideMaps.keyOf_string_mk Try.underlying9 hs
theorem strKeyed : Keyed Try.prog 9 := Maps.string_keyed Try.underlying9
theorem data_inj {a b : ByteArray} (h : a.data.toList = b.data.toList) : a = b := by
  cases a; cases b
  congr 1
  exact Array.toList_inj.1 h

/-- Block M is a map of at most c entries that leads string x to block g x. -/
def MapIs (w : World) (M c : Nat) (g : ByteArray → Option Nat) : Prop :=
  ∃ D : DataW Unit, w.ownsMap Try.prog 9 ptrElem M c D ∧ IsMap D ∧ ∀ x : ByteArray, D.atKey (.string x.data.toList) (.lit (.int .i64 (-1))) = .lit (.int .i64 (num (g x)))

theorem MapIs.made (w : World) : MapIs (w.alloc (.map #[] 0)) w.heap.size 0 (fun _ => none) :=
  ⟨_, World.ownsMap_made w Try.prog 9 ptrElem, Maps.isMap_empty, fun _ => rfl⟩
theorem MapIs.lt {w : World} {M c : Nat} {g : ByteArray → Option Nat} (h : MapIs w M c g) : M < w.heap.size := by
  obtain ⟨D, h1, _⟩ := h; exact h1.lt
theorem MapIs.block {w w' : World} {M c : Nat} {g : ByteArray → Option Nat} (h : MapIs w M c g) (hb : w'.heap[M]? = w.heap[M]?) : MapIs w' M c g := by
  obtain ⟨D, ⟨es, cl, h1, h2, h3, h4⟩, hm, ha⟩ := h
  exact ⟨D, ⟨es, cl, hb.trans h1, h2, h3, h4⟩, hm, ha⟩
theorem MapIs.alloc {w : World} {M c : Nat} {g : ByteArray → Option Nat} (h : MapIs w M c g) (o : Obj) : MapIs (w.alloc o) M c g := h.block (Below.heap_alloc w o M h.lt)
theorem MapIs.setOther {w : World} {M c : Nat} {g : ByteArray → Option Nat} (h : MapIs w M c g) {a : Addr} (ha : M ≠ a.block) (v : Value) : MapIs (w.setCell a v) M c g := h.block (Below.heap_setCell w a v M ha)
theorem MapIs.below {w w' : World} {M c : Nat} {g : ByteArray → Option Nat} (h : MapIs w M c g) (hb : Below w.heap.size w w') : MapIs w' M c g := h.block (hb.block M h.lt)

theorem zero87 (w : World) : (zeroValue 87).run Try.prog w = .ok (.pointer none) w := by
  have h : (Try.prog.info? 87).map (fun i => (i.zero, i.size, i.bytes)) = some (some (.pointer none), 1, 8) := by kernel_rfl
  obtain ⟨i, h1, h2, _⟩ := info_parts h
  simp [zeroValue, typeInfo, h1, h2]

theorem MapIs.look {w : World} {M c : Nat} {g : ByteArray → Option Nat} (h : MapIs w M c g) (x : ByteArray) (hx : x.size ≤ maxLen) :
    (Instr.lookup 85 (.map (some M)) (.string x) false).run Try.prog w = .ok (ptr (g x)) w := by
  obtain ⟨D, h1, hm, ha⟩ := h
  obtain ⟨v, ps, hrun, hv⟩ := h1.lookup strKeyed Try.underlying85 (zero87 w) (ptrElem_ptr none) (strKey hx)
  rw [hrun]
  have hv' : ptrElem v = some (D.atKey (.string x.data.toList) (.lit (.int .i64 (-1))), ps) := hv
  rw [ha x] at hv'
  rw [ptrElem_inv (g x) hv' rfl]

/-- 'm[x] = p' at the operation. -/
theorem map_store {w : World} {M c : Nat} {g : ByteArray → Option Nat} (hM : MapIs w M c g) (hc : c < maxLen) (x : ByteArray) (hx : x.size ≤ maxLen) (b : Nat) {ops : Array Oper} {rest : List Oper} {o : Oper} {a : Act} {Q : Exit → Act → World → Prop}
    (hg : o.guard = none) (m y v : Operand) (hop : o.op = Op.mapUpdate 85 m y v) (hm : a.eval m = .map (some M)) (hy : a.eval y = .string x) (hv : a.eval v = .pointer (some ⟨b, 0, none⟩))
    (hK : ∀ w', MapIs w' M (c + 1) (fun z => if z = x then some b else g z) → w.grownBy w' (some M) → wpList Try.prog ops Q rest (a.put o.dst undef) w') :
    wpList Try.prog ops Q (o :: rest) a w := by
  obtain ⟨D, h1, hmap, ha⟩ := hM
  refine wpList_mapUpdate_own w hg m y v 85 hop 9 87 strKeyed Try.underlying85 ptrElem M c D hm h1 hc (.string x) (.pointer (some ⟨b, 0, none⟩)) (.string x.data.toList) hy hv (strKey hx) (.lit (.int .i64 (b : Int))) [] rfl ?_
  intro w' h2 hgr
  refine hK w' ⟨_, h2, hmap.put _ _, fun z => ?_⟩ hgr
  by_cases e : z = x
  · subst e
    rw [Maps.atKey_put_same hmap (show WideAt.IsKeyLit (.string z.data.toList) from trivial)]
    show _ = DataW.lit (Lit.int .i64 (num (if z = z then some b else g z)))
    rw [if_pos rfl]
    rfl
  · rw [Maps.atKey_put_other (by intro h; injection h with h; exact e (data_inj h))]
    show _ = DataW.lit (Lit.int .i64 (num (if z = x then some b else g z)))
    rw [if_neg e]
    exact ha z

/-- The pieces of a part: two cells each. -/
def TxtAt (w : World) (t m : Nat) (S : Nat → ByteArray) : Prop := ∀ k, k < m → w.cell? ⟨t, k * 2, none⟩ = some (.string (S k)) ∧ w.cell? ⟨t, k * 2 + 1, none⟩ = some (.pointer none)
theorem TxtAt.below {w w' : World} {t m : Nat} {S : Nat → ByteArray} (h : TxtAt w t m S) (hb : Below w.heap.size w w') : TxtAt w' t m S := fun k hk => ⟨cell_below hb (h k hk).1, cell_below hb (h k hk).2⟩

set_option maxRecDepth 100000 in
theorem size_any (t m : Nat) (S : Nat → ByteArray) (w : World) (hT : TxtAt w t m S) (hm : m ≤ 1048576) (hb : szUp S m ≤ 1048576) :
    Calls Try.prog 40 #[.slice (some ⟨t, 0, none⟩) m m] w fun e w' => e = .returned (.int .i64 (szUp S m : Int)) ∧ Below w.heap.size w w' := by
  go_enter Try.func40, Try.ntmps40
  go_wp2
  go_loopg [3, 8] m (fun k z i w' => ∃ (j Z : Nat), j + k = m ∧ i = .int .i64 j ∧ z = .int .i64 Z ∧ Hid (Z = szUp S j) ∧ Below w.heap.size w w')
  case atStart => exact ⟨0, 0, by omega, rfl, rfl, rfl, Below.refl _ _⟩
  case round =>
    obtain ⟨j, Z, hj, rfl, rfl, HZ, hbel⟩ := hrel
    by_cases hlt : j < m
    · have c0 := cell_below hbel (hT j hlt).1
      have c1 := cell_below hbel (hT j hlt).2
      have hz1 : Z ≤ 1048576 := by rw [HZ.out]; have := szUp_mono S (show j ≤ m by omega); omega
      have hsz := sz_ge S m j hlt
      have hsz2 : (S j).size ≤ 1048576 := by omega
      have HN : Hid (szUp S (j + 1) = Z + if (S j).size = 0 then 1 else (S j).size) := by unfold Hid; rw [HZ.out]; rfl
      clear hsz
      have hsze := hbel.size
      by_cases h0 : (S j).size < 1
      · go_wp2
        go_roundg (gk - 1)
        case measure => omega
        case rel => exact ⟨j + 1, Z + 1, by omega, by go_num, by go_num, by rw [HN.out, if_pos (by omega)]; rfl, hbel.alloc hsze _⟩
      · go_wp2
        all_goals
         go_roundg (gk - 1)
         case measure => omega
         case rel => exact ⟨j + 1, Z + (S j).size, by omega, by go_num, by go_num, by rw [HN.out, if_neg (by omega)]; rfl, hbel.alloc hsze _⟩
    · obtain rfl : m = j := by omega
      go_wp2
      go_ret
      exact ⟨ret_int (by rw [HZ.out]), hbel⟩

end Go.Proofs.Qxb6602406a
