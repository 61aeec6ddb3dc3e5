/-
  Seat b6602406a: lists of tokens in memory.
-/
import Derived.Test.Qxb6602406aAncMem
namespace Go.Proofs.Qxb6602406a.Spell
open Go.RowKit

/-- A list of tokens, by its nodes' paths: a path goes down by the number of a token and the number of an option. -/
structure Tree where
  n : List (Nat × Nat) → Nat
  kind : List (Nat × Nat) → Nat → Int
  lit : List (Nat × Nat) → Nat → ByteArray
  m : List (Nat × Nat) → Nat → Nat

def Tree.N (T : Tree) : Nat := T.n []
def Tree.K (T : Tree) (i : Nat) : Int := T.kind [] i
def Tree.L (T : Tree) (i : Nat) : ByteArray := T.lit [] i
def Tree.M (T : Tree) (i : Nat) : Nat := T.m [] i
/-- Option k of token i. -/
def Tree.sub (T : Tree) (i k : Nat) : Tree := ⟨fun p => T.n ((i, k) :: p), fun p => T.kind ((i, k) :: p), fun p => T.lit ((i, k) :: p), fun p => T.m ((i, k) :: p)⟩

/-- A token's options in memory. -/
def Opts (Q : Value → Tree → Prop) (w : World) (lo : Nat) (T : Tree) (i : Nat) (v : Value) : Prop :=
  ∃ oo oc, v = .slice oo (T.M i) oc ∧ (oo = none → T.M i = 0) ∧ T.M i ≤ 8796093022208 ∧ (T.M i = 0 ∨ ∃ b o, oo = some ⟨b, o, none⟩ ∧ lo ≤ b ∧ ∀ k, k < T.M i → ∃ v', w.cell? ⟨b, o + k, none⟩ = some v' ∧ Q v' (T.sub i k))

/-- A list of tokens in memory, no deeper than d: s cells a token, its options in cell po. -/
def At (s po : Nat) (w : World) (lo : Nat) : Nat → Value → Tree → Prop
  | 0 => fun _ _ => False
  | d + 1 => fun v T => ∃ ao c, v = .slice ao T.N c ∧ (ao = none → T.N = 0 ∧ c = 0) ∧ T.N ≤ 4398046511104 ∧ (T.N = 0 ∨ ∃ b o, ao = some ⟨b, o, none⟩ ∧ lo ≤ b ∧ ∀ i, i < T.N →
      w.cell? ⟨b, o + i * s, none⟩ = some (.int .i64 (T.K i)) ∧ w.cell? ⟨b, o + i * s + 1, none⟩ = some (.string (T.L i)) ∧ (s = 4 → w.cell? ⟨b, o + i * s + 2, none⟩ = some (.pointer none)) ∧
      ∃ v', w.cell? ⟨b, o + i * s + po, none⟩ = some v' ∧ Opts (At s po w lo d) w lo T i v')

/-- Every block from lo on stands. -/
def Keeps (lo : Nat) (w w' : World) : Prop := ∀ b, lo ≤ b → b < w.heap.size → w'.heap[b]? = w.heap[b]?

theorem Keeps.cell {lo : Nat} {w w' : World} (h : Keeps lo w w') {a : Addr} {v : Value} (ha : lo ≤ a.block) (hc : w.cell? a = some v) : w'.cell? a = some v :=
  (World.cell?_of_block (w := w) (h a.block ha (World.block_lt_of_cell? w a hc))).trans hc

theorem Below.keeps {lo : Nat} {w w' : World} (h : Below w.heap.size w w') : Keeps lo w w' := fun b _ hb => h.block b hb

theorem Opts.imp {Q Q' : Value → Tree → Prop} {w w' : World} {lo lo' : Nat} {T : Tree} {i : Nat} {v : Value} (h : Opts Q w lo T i v) (hk : Keeps lo w w') (hlo : lo' ≤ lo) (hQ : ∀ v T, Q v T → Q' v T) : Opts Q' w' lo' T i v := by
  obtain ⟨oo, oc, h1, h2, h3, h4⟩ := h
  refine ⟨oo, oc, h1, h2, h3, ?_⟩
  rcases h4 with h4 | ⟨b, o, e, hb, h4⟩
  · exact .inl h4
  · refine .inr ⟨b, o, e, by omega, fun k hk' => ?_⟩
    obtain ⟨v', c, q⟩ := h4 k hk'
    exact ⟨v', hk.cell hb c, hQ _ _ q⟩

theorem At.imp {s po : Nat} {w w' : World} {lo lo' : Nat} (hk : Keeps lo w w') (hlo : lo' ≤ lo) : ∀ {d : Nat} {v : Value} {T : Tree}, At s po w lo d v T → At s po w' lo' d v T := by
  intro d
  induction d with
  | zero => intro v T h; exact h
  | succ d ih =>
    rintro v T ⟨ao, c, h1, h2, h3, h4⟩
    refine ⟨ao, c, h1, h2, h3, ?_⟩
    rcases h4 with h4 | ⟨b, o, e, hb, h4⟩
    · exact .inl h4
    · refine .inr ⟨b, o, e, by omega, fun i hi => ?_⟩
      obtain ⟨c0, c1, c2, v', c3, ho⟩ := h4 i hi
      exact ⟨hk.cell hb c0, hk.cell hb c1, fun e4 => hk.cell hb (c2 e4), v', hk.cell hb c3, ho.imp hk hlo (fun _ _ => ih)⟩

theorem At.keep {s po : Nat} {w w' : World} {lo d : Nat} {v : Value} {T : Tree} (h : At s po w lo d v T) (hk : Keeps lo w w') : At s po w' lo d v T := h.imp hk (Nat.le_refl _)
theorem At.below {s po : Nat} {w w' : World} {lo d : Nat} {v : Value} {T : Tree} (h : At s po w lo d v T) (hb : Below w.heap.size w w') : At s po w' lo d v T := h.keep (Below.keeps hb)
theorem At.low {s po : Nat} {w : World} {lo lo' d : Nat} {v : Value} {T : Tree} (h : At s po w lo d v T) (hlo : lo' ≤ lo) : At s po w lo' d v T := h.imp (fun _ _ _ => rfl) hlo

end Go.Proofs.Qxb6602406a.Spell
