/-
  Seat b6602406a: a list of tokens that came in, opened.
-/
import Derived.Test.Qxb6602406aSplMem
import Derived.Deep.Slices
import Derived.OpenShut
import Derived.SizedLaws
namespace Go.Proofs.Qxb6602406a.Spell
open Go.ChangeShapes Go.WideShapes Go.RowKit

theorem Try.cells68 : Try.prog.cellsOf 68 = 3 := by kernel_rfl
theorem Try.cells66 : Try.prog.cellsOf 66 = 1 := by kernel_rfl
theorem Try.cells31 : Try.prog.cellsOf 31 = 1 := by kernel_rfl
theorem Try.cells3 : Try.prog.cellsOf 3 = 1 := by kernel_rfl
theorem Try.cells9 : Try.prog.cellsOf 9 = 1 := by kernel_rfl
theorem Try.bytes68 : Try.prog.bytesOf 68 = 48 := by kernel_rfl
theorem Try.bytes31 : Try.prog.bytesOf 31 = 24 := by kernel_rfl

/-- A tree of its root and its branches. -/
def glue (N : Nat) (K : Nat → Int) (L : Nat → ByteArray) (M : Nat → Nat) (S : Nat → Nat → Tree) : Tree :=
  ⟨fun p => match p with | [] => N | q :: r => (S q.1 q.2).n r, fun p => match p with | [] => K | q :: r => (S q.1 q.2).kind r, fun p => match p with | [] => L | q :: r => (S q.1 q.2).lit r, fun p => match p with | [] => M | q :: r => (S q.1 q.2).m r⟩
theorem glue_sub (N : Nat) (K : Nat → Int) (L : Nat → ByteArray) (M : Nat → Nat) (S : Nat → Nat → Tree) (i k : Nat) : (glue N K L M S).sub i k = S i k := rfl

theorem At.more {s po : Nat} {w : World} {lo : Nat} : ∀ {d : Nat} {v : Value} {T : Tree}, At s po w lo d v T → At s po w lo (d + 1) v T := by
  intro d
  induction d with
  | zero => intro v T h; exact h.elim
  | succ d ih =>
    rintro v T ⟨ao, c, h1, h2, h3, h4⟩
    refine ⟨ao, c, h1, h2, h3, ?_⟩
    rcases h4 with h4 | ⟨b, o, e, hb, h4⟩
    · exact .inl h4
    · refine .inr ⟨b, o, e, hb, fun i hi => ?_⟩
      obtain ⟨c0, c1, c2, v', c3, ho⟩ := h4 i hi
      exact ⟨c0, c1, c2, v', c3, ho.imp (fun _ _ _ => rfl) (Nat.le_refl _) (fun _ _ => ih)⟩
theorem At.upto {s po : Nat} {w : World} {lo d d' : Nat} {v : Value} {T : Tree} (h : At s po w lo d v T) (hd : d ≤ d') : At s po w lo d' v T := by
  induction hd with
  | refl => exact h
  | step _ ih => exact ih.more

section
variable {H : Type} {enc : TypeId × Value → H} {w : World} {base : Nat} {spare : Nat → Bool} {held : Bool} {fuel : Nat} {cs : List Value} {x : DataW H × List MemPlace}

theorem mem_weightsAll {P : Program} {e : TypeId} : ∀ {l : List (DataW H)} {d : DataW H}, d ∈ l → ∀ n ∈ d.weights P e, n ∈ DataW.weightsAll P e l
  | d' :: r, d, hd, n, hn => by
    simp only [DataW.weightsAll, List.mem_append]
    rcases List.mem_cons.1 hd with rfl | h
    · exact Or.inl hn
    · exact Or.inr (mem_weightsAll h n hn)

theorem open_sl {P : Program} {t e : TypeId} (ht : P.underlying t = some (.slice e)) (h : DataW.trod enc P w base spare held fuel t cs = some x) (hz : ∀ n ∈ x.1.weights P t, n ≤ reachBytes) :
    cs = [.slice none 0 0] ∨ ∃ (a : Addr) (len cap n : Nat), fuel = n + 1 ∧ cs = [.slice (some a) len cap] ∧ len * P.bytesOf e ≤ reachBytes ∧
      ∀ i, i < len → ∃ cs' y, w.cells? base (a.add (i * P.cellsOf e)) (P.cellsOf e) = some cs' ∧ DataW.trod enc P w base spare held n e cs' = some y ∧ ∀ n ∈ y.1.weights P e, n ≤ reachBytes := by
  rcases DataW.trod_slice ht h with h0 | ⟨a, len, cap, elems, rest, n, hf, rfl, rfl, hb, hl, hm, hlen, hel, _, _⟩
  · exact .inl h0.1
  · simp only [DataW.weights, ht, List.mem_cons, List.mem_append, List.length_map] at hz
    refine .inr ⟨a, len, cap, n, hf, rfl, ?_, fun i hi => ?_⟩
    · have := hz _ (.inl rfl)
      rw [hlen] at this
      exact Nat.le_trans (Nat.mul_le_mul_right _ (Nat.le_add_right _ _)) this
    · have hk := hel i hi
      rw [List.getElem?_eq_getElem (by omega)] at hk
      obtain ⟨cs', h1, h2⟩ := Option.bind_eq_some_iff.1 hk
      exact ⟨cs', _, h1, h2, fun n hn => hz n (.inr (.inl (mem_weightsAll (List.mem_map.2 ⟨_, List.getElem_mem _, rfl⟩) n hn)))⟩

set_option maxRecDepth 100000 in
theorem open_tok (h : DataW.trod enc Try.prog w base spare held fuel 68 cs = some x) (hz : ∀ n ∈ x.1.weights Try.prog 68, n ≤ reachBytes) :
    ∃ (K : Int) (L : ByteArray) (v : Value) (n : Nat) (y : DataW H × List MemPlace), cs = [.int .i64 K, .string L, v] ∧ fuel = n + 1 ∧ DataW.trod enc Try.prog w base spare held n 66 [v] = some y ∧ ∀ n ∈ y.1.weights Try.prog 66, n ≤ reachBytes := by
  obtain ⟨xs, n, hn, rfl, hl, hlen, hf⟩ := DataW.trod_struct Try.underlying68 h
  rw [Try.cells68] at hl
  match cs, hl with
  | [v0, v1, v2], _ =>
    match xs, hlen with
    | [y0, y1, y2], _ =>
      have h0 : DataW.trod enc Try.prog w base spare held n 3 [v0] = some y0 := by have := hf 0 _ rfl; simpa [Try.cells66, Try.cells9, Try.cells3] using this
      have h1 : DataW.trod enc Try.prog w base spare held n 9 [v1] = some y1 := by have := hf 1 _ rfl; simpa [Try.cells66, Try.cells9, Try.cells3] using this
      have h2 : DataW.trod enc Try.prog w base spare held n 66 [v2] = some y2 := by have := hf 2 _ rfl; simpa [Try.cells66, Try.cells9, Try.cells3] using this
      obtain ⟨K, e0, _⟩ := DataW.trod_int Try.underlying3 h0
      obtain ⟨L, e1, _⟩ := DataW.trod_string Try.underlying9 h1
      simp at e0 e1
      subst e0 e1
      refine ⟨K, L, v2, n, y2, rfl, hn, h2, fun m hm => hz m ?_⟩
      simp only [DataW.weights, Try.underlying68]
      simp [DataW.weightsEach, hm]

set_option maxRecDepth 100000 in
theorem open_toks : ∀ {fuel : Nat} {v : Value} {x : DataW H × List MemPlace}, DataW.trod enc Try.prog w 0 spare held fuel 31 [v] = some x → (∀ n ∈ x.1.weights Try.prog 31, n ≤ reachBytes) → ∃ T, At 3 2 w 0 fuel v T := by
  intro fuel
  induction fuel using Nat.strongRecOn with
  | ind fuel ih =>
    intro v x h hz
    rcases open_sl Try.underlying31 h hz with hcs | ⟨a, len, cap, n, rfl, hcs, hlen, hx⟩
    · simp at hcs
      subst hcs
      cases fuel with
      | zero => simp [DataW.trod] at h
      | succ n => exact ⟨glue 0 (fun _ => 0) (fun _ => ByteArray.empty) (fun _ => 0) (fun _ _ => ⟨fun _ => 0, fun _ _ => 0, fun _ _ => ByteArray.empty, fun _ _ => 0⟩), none, 0, rfl, fun _ => ⟨rfl, rfl⟩, Nat.zero_le _, .inl rfl⟩
    · simp at hcs
      subst hcs
      rw [Try.bytes68] at hlen
      rw [Try.cells68] at hx
      have hlen' : len ≤ 4398046511104 := by unfold reachBytes at hlen; omega
      have hx' : ∀ i, i < len → ∃ q : Int × ByteArray × Nat × (Nat → Tree), ∃ vo, w.cell? ((a.add (i * 3)).add 0) = some (.int .i64 q.1) ∧ w.cell? ((a.add (i * 3)).add 1) = some (.string q.2.1) ∧ w.cell? ((a.add (i * 3)).add 2) = some vo ∧
          ∃ oo oc, vo = .slice oo q.2.2.1 oc ∧ (oo = none → q.2.2.1 = 0) ∧ q.2.2.1 ≤ 8796093022208 ∧ (q.2.2.1 = 0 ∨ ∃ b o, oo = some ⟨b, o, none⟩ ∧ 0 ≤ b ∧ ∀ k, k < q.2.2.1 → ∃ v', w.cell? ⟨b, o + k, none⟩ = some v' ∧ At 3 2 w 0 n v' (q.2.2.2 k)) := by
        intro i hi
        obtain ⟨cs', y, h1, h2, h3⟩ := hx i hi
        obtain ⟨K, L, vo, n2, y2, rfl, rfl, h4, h5⟩ := open_tok h2 h3
        obtain ⟨_, _, hc⟩ := World.cells?_some h1
        rcases open_sl Try.underlying66 h4 h5 with e | ⟨a2, l2, c2, n3, rfl, e, hl2, hx2⟩
        · simp at e
          subst e
          exact ⟨(K, L, 0, fun _ => ⟨fun _ => 0, fun _ _ => 0, fun _ _ => ByteArray.empty, fun _ _ => 0⟩), _, hc 0 (by omega), hc 1 (by omega), hc 2 (by omega), none, 0, rfl, fun _ => rfl, Nat.zero_le _, .inl rfl⟩
        · simp at e
          subst e
          rw [Try.bytes31] at hl2
          rw [Try.cells31] at hx2
          have hl2' : l2 ≤ 8796093022208 := by unfold reachBytes at hl2; omega
          have hx3 : ∀ k, k < l2 → ∃ q : Tree, ∃ v', w.cell? (a2.add k) = some v' ∧ At 3 2 w 0 (n3 + 1 + 1) v' q := by
            intro k hk
            obtain ⟨cs', y, g1, g2, g3⟩ := hx2 k hk
            obtain ⟨_, gl, gc⟩ := World.cells?_some g1
            match cs', gl with
            | [v'], _ =>
              obtain ⟨T', hT'⟩ := ih n3 (by omega) g2 g3
              refine ⟨T', v', ?_, hT'.upto (by omega)⟩
              have := gc 0 (by omega)
              simpa [Addr.add] using this
          have hinh : Inhabited Tree := ⟨⟨fun _ => 0, fun _ _ => 0, fun _ _ => ByteArray.empty, fun _ _ => 0⟩⟩
          obtain ⟨S, hS⟩ := Go.Deep.choose_lt hx3
          refine ⟨(K, L, l2, S), _, hc 0 (by omega), hc 1 (by omega), hc 2 (by omega), some a2, c2, rfl, fun e => (by cases e), hl2', ?_⟩
          by_cases h0 : l2 = 0
          · exact .inl h0
          · obtain ⟨b, off, spot⟩ := a2
            have hspot : spot = none := by
              obtain ⟨v', h1, _⟩ := hS 0 (by omega)
              simpa [Addr.add] using World.cell?_spot h1
            subst hspot
            refine .inr ⟨b, off, rfl, Nat.zero_le _, fun k hk => ?_⟩
            obtain ⟨v', h1, h2⟩ := hS k hk
            exact ⟨v', by rw [← Go.WideShapes.add_plain]; exact h1, h2⟩
      have hinh : Inhabited (Int × ByteArray × Nat × (Nat → Tree)) := ⟨(0, ByteArray.empty, 0, fun _ => ⟨fun _ => 0, fun _ _ => 0, fun _ _ => ByteArray.empty, fun _ _ => 0⟩)⟩
      obtain ⟨q, hq⟩ := Go.Deep.choose_lt hx'
      refine ⟨glue len (fun i => (q i).1) (fun i => (q i).2.1) (fun i => (q i).2.2.1) (fun i k => (q i).2.2.2 k), some a, cap, rfl, fun e => (by cases e), hlen', ?_⟩
      by_cases h0 : len = 0
      · exact .inl h0
      · obtain ⟨b, off, spot⟩ := a
        have hspot : spot = none := by
          obtain ⟨vo, h1, _⟩ := hq 0 (by omega)
          simpa [Addr.add] using World.cell?_spot h1
        subst hspot
        refine .inr ⟨b, off, rfl, Nat.zero_le _, fun i hi => ?_⟩
        obtain ⟨vo, h1, h2, h3, ho⟩ := hq i hi
        simp only [Go.WideShapes.add_plain] at h1 h2 h3
        exact ⟨h1, h2, fun e => absurd e (by omega), vo, h3, ho⟩
end

end Go.Proofs.Qxb6602406a.Spell
