/-
  Seat b6602406a. A law that the kit lacks: 'append(s, make([]T, m)...)', which the translation lays as ONE builtin append whose second argument is the NUMBER m.
-/
import Derived.WalkKit
import Derived.Deep.OwnRows
import Derived.Deep.RegionLaw
namespace Go.Proofs.Qxb6602406a
open Go.RowKit

theorem zeroCells_one (z : Value) (m : Nat) : Builtin.zeroCells #[z] m = (List.replicate m z).toArray := by
  apply Array.ext'
  apply List.ext_getElem?
  intro j
  by_cases hj : j < m
  · simp [Builtin.zeroCells, hj, Nat.mod_one]
  · simp [Builtin.zeroCells, hj]

theorem wrap_i64_nat (m : Nat) (h : m ≤ 9223372036854775807) : IntKind.i64.wrap (m : Int) = (m : Int) := by
  rw [IntKind.wrap_i64]; omega

theorem run_append_zeros {P : Program} (w : World) (base : Nat) (t u ty e : TypeId) (i : TypeInfo) (z : Value) (bytes : Nat) (ht : P.underlying t = some (.slice e)) (hu : P.underlying u = some (.int .i64)) (hi : P.info? e = some i) (hz : i.zero = some z)
    (hsize : i.size = 1) (hby : i.bytes = bytes) (hz1 : z.cells = #[z]) (h1 : z.oneCell' = true)
    (v : Value) (n : Nat) (xs : List Value) (hown : w.ownsRow base e 1 v n xs) (m : Nat) (hm : 0 < m)
    (h63 : n + m ≤ maxLen) (hbytes : (n + m) * bytes ≤ 140737488355328) (hbase : base ≤ w.heap.size) :
    ∃ g cap w', (Builtin.append_ #[t, u] ty #[v, .int .i64 (m : Int)]).run P w = .ok (.slice (some ⟨g, 0, none⟩) (n + m) cap) w' ∧
      w'.ownsRow base e 1 (.slice (some ⟨g, 0, none⟩) (n + m) cap) (n + m) (xs ++ List.replicate m z) ∧ w.grownBy w' v.ownBlock := by
  subst hby
  have hsmall : n + m ≤ 9223372036854775807 := by simp only [maxLen] at h63; omega
  have hwm := wrap_i64_nat m (by omega)
  have hlen : (xs ++ List.replicate m z).length = (n + m) * 1 := by rw [List.length_append, hown.1]; simp
  have hneg : ¬ ((m : Int) < 0) := by omega
  have hm0 : m ≠ 0 := by omega
  have hmb : m * i.bytes ≤ 140737488355328 := Nat.le_trans (Nat.mul_le_mul_right _ (by omega)) hbytes
  have h48 : ¬ (281474976710656 < (m : Int) * (i.bytes : Int)) := by
    have : ((m * i.bytes : Nat) : Int) ≤ 140737488355328 := by omega
    rw [Int.natCast_mul] at this
    omega
  have grown : ∀ (old : Nat), old < n + m → ∀ (row : Option Nat),
      (w.drew.alloc (.cells (xs.toArray ++ (List.replicate m z).toArray ++ Builtin.zeroCells z.cells (grownCap w (n + m) old e - (n + m))) e)).ownsRow base e 1
        (.slice (some ⟨w.heap.size, 0, none⟩) (n + m) (grownCap w (n + m) old e)) (n + m) (xs ++ List.replicate m z) ∧
      w.grownBy (w.drew.alloc (.cells (xs.toArray ++ (List.replicate m z).toArray ++ Builtin.zeroCells z.cells (grownCap w (n + m) old e - (n + m))) e)) row := by
    intro old ho row
    have hge := grownCap_ge w (n + m) old e
    have hcm : grownCap w (n + m) old e ≤ maxLen := grownCap_le_maxLen w (n + m) old e h63
    refine ⟨⟨hlen, .inr ⟨w.heap.size, _, _, rfl, hbase, heap_alloc_new w.drew _, hge, hcm, ?_, ?_⟩⟩, ⟨rfl, rfl, rfl, by simp, fun k hk _ => Below.heap_alloc w.drew _ k hk⟩⟩
    · simp only [Array.size_append, List.size_toArray, size_zeroCells, hz1, hown.1, List.length_replicate, List.size_toArray, List.length_cons, List.length_nil]
      omega
    · simp only [Array.toList_append, List.append_assoc]
      rw [← List.append_assoc, ← hlen]
      exact List.take_left
  rcases hown.2 with ⟨rfl, rfl⟩ | ⟨g, cap, cur, rfl, hbg, hg, hnc, hcm, hcs, htake⟩
  · have hx : xs = [] := List.eq_nil_of_length_eq_zero (by simpa using hown.1)
    subst hx
    have h63' : ¬ (9223372036854775807 < (m : Int)) := by omega
    have h48' : ¬ (281474976710656 < Builtin.nextslicecap m 0 * i.bytes) := by rw [nextslicecap_zero hm]; omega
    have hgr := grown 0 (by omega) (Value.ownBlock (.slice none 0 0))
    simp only [Nat.zero_add, List.nil_append] at hgr
    refine ⟨w.heap.size, grownCap w m 0 e, w.drew.alloc (.cells ((#[] : Array Value) ++ (List.replicate m z).toArray ++ Builtin.zeroCells z.cells (grownCap w m 0 e - m)) e), ?_, by simpa using hgr.1, hgr.2⟩
    simp [Builtin.append_, run_underlying ht, run_underlying hu, sizeOf, typeInfo, zeroValue, hi, hz, hsize, asInt, asIntOf, hwm, hneg, h48, hm0, h63', h48', Question.forced, run_firstCells_none, newRow, grownCap, hz1, zeroCells_one]
  · by_cases hroom : n + m ≤ cap
    · have hfit : n * 1 + 0 + (List.replicate m z).length ≤ cur.size := by rw [List.length_replicate, hcs]; omega
      have hst := run_storeCells_at P g (n * 1) e (List.replicate m z) 0 cur w hg hfit (fun v hv => by rw [List.eq_of_mem_replicate hv]; exact h1)
      simp only [Nat.add_zero] at hst
      refine ⟨g, cap, w.setRow g (cur.toList.take (n * 1) ++ List.replicate m z ++ cur.toList.drop (n * 1 + (List.replicate m z).length)).toArray, ?_, ⟨hlen, .inr ⟨g, cap, _, rfl, hbg, setRow_heap w g cur _ e _ hg, hroom, hcm, ?_, ?_⟩⟩, ⟨rfl, rfl, rfl, by simp, fun k _ hk => setRow_other w g k _ (fun e => hk (by simp [Value.ownBlock, e]))⟩⟩
      · simp [Builtin.append_, run_underlying ht, run_underlying hu, sizeOf, typeInfo, zeroValue, hi, hz, hsize, asInt, asIntOf, hwm, hneg, h48, hm0, hroom, hz1, zeroCells_one, Addr.add_lit] at hst ⊢
        rw [hst]
        rfl
      · simp only [List.size_toArray, List.length_append, List.length_take, List.length_drop, Array.length_toList, List.length_replicate]
        omega
      · rw [htake, ← hlen]
        exact List.take_left
    · have holds : ∀ j u, xs[j]? = some u → w.cell? ((⟨g, 0, none⟩ : Addr).add j) = some u := hown.cells (g := g) rfl
      have hfo := run_firstCells_some (P := P) w.drew 1 n ⟨g, 0, none⟩ n cap xs hown.1 (by simpa using holds)
      have h63' : ¬ (9223372036854775807 < ((n : Int) + (m : Int))) := by omega
      have h48' : ¬ (281474976710656 < Builtin.nextslicecap (n + m) cap * i.bytes) := by have := growslice_fits (need := n + m) (old := cap) (bytes := i.bytes) (by omega) hbytes; omega
      have hgr := grown cap (by omega) (Value.ownBlock (.slice (some ⟨g, 0, none⟩) n cap))
      refine ⟨w.heap.size, grownCap w (n + m) cap e, _, ?_, hgr.1, hgr.2⟩
      simp [Builtin.append_, run_underlying ht, run_underlying hu, sizeOf, typeInfo, zeroValue, hi, hz, hsize, asInt, asIntOf, hwm, hneg, h48, hm0, hroom, h63', h48', Question.forced, hfo, newRow, grownCap, hz1, zeroCells_one]

/-- .. as a law of the walk. -/
theorem wpList_append_zeros {P : Program} (w : World) {ops : Array Oper} {rest : List Oper} {o : Oper} {a : Act} {Q : Exit → Act → World → Prop} (hgd : o.guard = none) (s x : Operand) (t u : TypeId)
    (ho : o.op = .call { callee := .builtin .append, args := #[s, x], argTypes := #[t, u] })
    (base : Nat) (e : TypeId) (i : TypeInfo) (z : Value) (bytes : Nat) (ht : P.underlying t = some (.slice e)) (hu : P.underlying u = some (.int .i64)) (hi : P.info? e = some i) (hz : i.zero = some z)
    (hsize : i.size = 1) (hby : i.bytes = bytes) (hz1 : z.cells = #[z]) (h1 : z.oneCell' = true)
    (v : Value) (n : Nat) (xs : List Value) (hs : a.eval s = v) (hown : w.ownsRow base e 1 v n xs) (L : Int) (m : Nat) (hx : a.eval x = .int .i64 L) (hL : L = (m : Int)) (hm : 0 < m)
    (h63 : n + m ≤ maxLen) (hbytes : (n + m) * bytes ≤ 140737488355328) (hbase : base ≤ w.heap.size)
    (h : ∀ g cap w', w'.ownsRow base e 1 (.slice (some ⟨g, 0, none⟩) (n + m) cap) (n + m) (xs ++ List.replicate m z) → w.grownBy w' v.ownBlock → wpList P ops Q rest (a.put o.dst (.slice (some ⟨g, 0, none⟩) (n + m) cap)) w') : wpList P ops Q (o :: rest) a w := by
  refine wpList_plain hgd fun K hK => ?_
  subst hL
  obtain ⟨g, cap, w', hr, h2, h3⟩ := run_append_zeros (P := P) w base t u o.type e i z bytes ht hu hi hz hsize hby hz1 h1 v n xs hown m hm h63 hbytes hbase
  unfold Oper.wp execOp
  simp only [ho, resolve, invoke, builtin, Sem.run_bind, Sem.run_pure, Result.andThen_ok, List.map_toArray, List.map_cons, List.map_nil, hs, hx, hr]
  exact hK _ _ (h g cap w' h2 h3)

/-- .. as a step of a region that draws its order. -/
theorem step_append_zeros {P : Program} {ops : Array Oper} {o : Oper} {a : Act} {w : World} {K : Act → World → Prop} {Q : Exit → Act → World → Prop} {E : Prop}
    (hgd : o.guard = none) (s x : Operand) (t u : TypeId)
    (ho : o.op = .call { callee := .builtin .append, args := #[s, x], argTypes := #[t, u] })
    (base : Nat) (e : TypeId) (i : TypeInfo) (z : Value) (bytes : Nat) (ht : P.underlying t = some (.slice e)) (hu : P.underlying u = some (.int .i64)) (hi : P.info? e = some i) (hz : i.zero = some z)
    (hsize : i.size = 1) (hby : i.bytes = bytes) (hz1 : z.cells = #[z]) (h1 : z.oneCell' = true)
    (v : Value) (n : Nat) (xs : List Value) (hs : a.eval s = v) (hown : w.ownsRow base e 1 v n xs) (L : Int) (m : Nat) (hx : a.eval x = .int .i64 L) (hL : L = (m : Int)) (hm : 0 < m)
    (h63 : n + m ≤ maxLen) (hbytes : (n + m) * bytes ≤ 140737488355328) (hbase : base ≤ w.heap.size)
    (h : ∀ g cap w', w'.ownsRow base e 1 (.slice (some ⟨g, 0, none⟩) (n + m) cap) (n + m) (xs ++ List.replicate m z) → w.grownBy w' v.ownBlock → K (a.put o.dst (.slice (some ⟨g, 0, none⟩) (n + m) cap)) w') :
    if Region.wanted o (yielded ops a.tmps) = true then Oper.wp P o a w K Q else E := by
  have hw : Region.wanted o (yielded ops a.tmps) = true := by simp [Region.wanted, hgd]
  rw [if_pos hw]
  subst hL
  obtain ⟨g, cap, w', hr, h2, h3⟩ := run_append_zeros (P := P) w base t u o.type e i z bytes ht hu hi hz hsize hby hz1 h1 v n xs hown m hm h63 hbytes hbase
  unfold Oper.wp execOp
  simp only [ho, resolve, invoke, builtin, Sem.run_bind, Sem.run_pure, Result.andThen_ok, List.map_toArray, List.map_cons, List.map_nil, hs, hx, hr]
  exact h g cap w' h2 h3

/-- 'make([]T, L)', the number as the walk has reckoned it. -/
theorem mk_row {P : Program} (t e : TypeId) (z : Value) (bytes : Nat) (ht : P.underlying t = some (.slice e)) (hinfo : (P.info? e).map (fun i => (i.zero, i.size, i.bytes)) = some (some z, 1, bytes)) (hz1 : z.cells = #[z])
    (L : Int) (n : Nat) (hL : L = (n : Int)) (hbytes : bytes * n ≤ 281474976710656) (h63 : n ≤ 9223372036854775807) (w : World) :
    (Instr.makeSlice t (.int .i64 L) (.int .i64 L)).run P w = .ok (.slice (some ⟨w.heap.size, 0, none⟩) n n) (w.alloc (.cells (madeCells #[z] n) e)) := by
  subst hL
  exact run_make_row' t e z bytes ht hinfo hz1 .i64 .i64 n hbytes h63 w

/-- The same for elements of several cells. -/
theorem mk_rows {P : Program} (t e : TypeId) (z : Value) (size bytes : Nat) (ht : P.underlying t = some (.slice e)) (hinfo : (P.info? e).map (fun i => (i.zero, i.size, i.bytes)) = some (some z, size, bytes))
    (L : Int) (n : Nat) (hL : L = (n : Int)) (hbytes : bytes * n ≤ 281474976710656) (h63 : n ≤ 9223372036854775807) (w : World) :
    (Instr.makeSlice t (.int .i64 L) (.int .i64 L)).run P w = .ok (.slice (some ⟨w.heap.size, 0, none⟩) n n) (w.alloc (.cells (madeCells z.cells (n * size)) e)) := by
  subst hL
  obtain ⟨i, hi, hz, hs, hb⟩ := info_parts hinfo
  have hb' : (i.bytes : Int) * (n : Int) ≤ 281474976710656 := by
    have h : ((i.bytes * n : Nat) : Int) ≤ 281474976710656 := by rw [hb]; omega
    rwa [Int.natCast_mul] at h
  have hr := run_make (P := P) w t e i z ht hi hz .i64 .i64 n n (by omega) (Int.le_refl _) hb' (by omega)
  simp only [Int.toNat_natCast, hs] at hr
  exact hr

end Go.Proofs.Qxb6602406a
