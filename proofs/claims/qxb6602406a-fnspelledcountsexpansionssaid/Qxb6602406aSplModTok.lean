/-
  Seat b6602406a: the walk of modelTok.
-/
import Derived.Test.Qxb6602406aSplSmall
import Derived.Test.Qxb6602406aSplCopy
namespace Go.Proofs.Qxb6602406a.Spell
open Go.RowKit

/-- What modelSeq answers for lists no deeper than d. -/
def SeqLaw (most d : Nat) : Prop := ∀ (v : Value) (T : Tree) (w : World) (lo : Nat), At 3 2 w lo d v T →
    Calls Try.prog 34 #[v, .int .i64 most] w fun e w' => ∃ p c : Nat, e = .returned (.tuple #[.int .i64 p, .int .i64 c]) ∧ Hid (p = min most (cnt d T).1) ∧ Hid (c = min most (cnt d T).2) ∧ Below w.heap.size w w'

set_option maxRecDepth 100000 in
set_option maxHeartbeats 2000000 in
theorem modelTok_any (most : Nat) (hm : most ≤ 4611686018427387903) (d : Nat) (ih : SeqLaw most d) (T : Tree) (j : Nat) (v : Value) (w : World) (lo : Nat) (ho : Opts (At 3 2 w lo d) w lo T j v) :
    Calls Try.prog 38 #[.agg #[.int .i64 (T.K j), .string (T.L j), v], .int .i64 most] w fun e w' => ∃ p c : Nat, e = .returned (.tuple #[.int .i64 p, .int .i64 c]) ∧ Hid (p = min most (Pn d T j)) ∧ Hid (c = min most (Cn d T j)) ∧ Below w.heap.size w w' := by
  obtain ⟨oo, oc, rfl, hon, hM, hopt⟩ := ho
  have HO : Hid (T.M j = 0 ∨ ∃ b o, oo = some ⟨b, o, none⟩ ∧ lo ≤ b ∧ ∀ k, k < T.M j → ∃ v', w.cell? ⟨b, o + k, none⟩ = some v' ∧ At 3 2 w lo d v' (T.sub j k)) := hopt
  have IH : Hid (SeqLaw most d) := ih
  clear hopt ih hon
  have hal : ∀ o, Below w.heap.size w (w.alloc o) := fun o => (Below.refl _ _).alloc (Nat.le_refl _) _
  obtain ⟨R2, HR2⟩ : ∃ R, Hid (R = min most 2) := ⟨_, rfl⟩
  obtain ⟨R1, HR1⟩ : ∃ R, Hid (R = min most 1) := ⟨_, rfl⟩
  have hs2 : ∀ w, Calls Try.prog 21 #[.int .i64 2, .int .i64 most] w fun e w' => e = .returned (.int .i64 (R2 : Int)) ∧ w = w' := fun w => by rw [HR2.out]; exact satOf_any 2 most w
  have hs1 : ∀ w, Calls Try.prog 21 #[.int .i64 1, .int .i64 most] w fun e w' => e = .returned (.int .i64 (R1 : Int)) ∧ w = w' := fun w => by rw [HR1.out]; exact satOf_any 1 most w
  by_cases h3 : T.K j = 3
  · have g3 : (T.K j == 3) = true := by simp [h3]
    have HW : Hid (R2 = min most (Pn d T j) ∧ R2 = min most (Cn d T j)) := ⟨by rw [HR2.out]; simp [Pn, np, h3], by rw [HR2.out]; simp [Cn, nc, h3]⟩
    clear h3
    go_enter Try.func38, Try.ntmps38
    go_wp2_with (go_at_call 21; refine (hs2 _).mono ?_; rintro e w' ⟨rfl, rfl⟩)
    refine bodyPost_ret (v := .tuple #[.int .i64 R2, .int .i64 R2]) ?_ rfl ⟨R2, R2, rfl, HW.out.1, HW.out.2, hal _⟩
    simp [results, Try.results38, go_sem]
  · have g3 : (T.K j == 3) = false := by simp [h3]
    by_cases h4 : T.K j = 4
    · have g4 : (T.K j == 4) = true := by simp [h4]
      have HN : Hid (Pn d T j = if T.M j = 0 then 1 else sumUp (fun k => (cnt d (T.sub j k)).1) (T.M j)) := by unfold Hid; simp [Pn, np, h4]
      have HCn : Hid (Cn d T j = sumUp (fun k => (cnt d (T.sub j k)).2) (T.M j)) := by unfold Hid; simp [Cn, nc, h4]
      clear h3 h4
      by_cases hM0 : T.M j = 0
      · have g5 : ((T.M j : Int) == 0) = true := by simp [hM0]
        have HW : Hid (R1 = min most (Pn d T j) ∧ 0 = min most (Cn d T j)) := ⟨by rw [HR1.out, HN.out, if_pos hM0], by rw [HCn.out, hM0]; simp [sumUp]⟩
        clear hM0
        go_enter Try.func38, Try.ntmps38
        go_wp2_with (go_at_call 21; refine (hs1 _).mono ?_; rintro e w' ⟨rfl, rfl⟩)
        refine bodyPost_ret (v := .tuple #[.int .i64 R1, .int .i64 0]) ?_ rfl ⟨R1, 0, rfl, HW.out.1, HW.out.2, hal _⟩
        simp [results, Try.results38, go_sem]
      · have g5 : ((T.M j : Int) == 0) = false := by simp [hM0]
        have HN2 : Hid (Pn d T j = sumUp (fun k => (cnt d (T.sub j k)).1) (T.M j)) := by have := HN.out; rw [if_neg hM0] at this; exact this
        obtain ⟨G, HG⟩ : ∃ G : Nat → Nat → Nat, Hid (∀ a b, G a b = min most (a + b)) := ⟨fun a b => min most (a + b), fun _ _ => rfl⟩
        have hA : ∀ (a b : Nat) (w : World), a ≤ most → b ≤ most → Calls Try.prog 20 #[.int .i64 a, .int .i64 b, .int .i64 most] w fun e w' => e = .returned (.int .i64 (G a b : Int)) ∧ w = w' := fun a b w ha hb => by
          rw [HG.out]; exact satAdd_any a b most w (by omega) (by omega)
        clear hM0 HN hs1 hs2
        go_enter Try.func38, Try.ntmps38
        go_wp2
        have k2 : (w.alloc (.cells #[.int .i64 (T.K j), .string (T.L j), .slice oo (T.M j) oc] 68)).cell? ⟨w.heap.size, 2, none⟩ = some (.slice oo (T.M j) oc) := by rw [World.cell?_alloc_new]; rfl
        have hal2 := hal (.cells #[.int .i64 (T.K j), .string (T.L j), .slice oo (T.M j) oc] 68)
        generalize w.alloc (.cells #[.int .i64 (T.K j), .string (T.L j), .slice oo (T.M j) oc] 68) = w2 at k2 hal2 ⊢
        clear hal
        go_loopg [6, 7, 8] (T.M j) (fun k x y i w' => ∃ (q n ch : Nat), q + k = T.M j ∧ i = .int .i64 q ∧ x = .int .i64 n ∧ y = .int .i64 ch ∧ Hid (n = min most (sumUp (fun k => (cnt d (T.sub j k)).1) q)) ∧ Hid (ch = min most (sumUp (fun k => (cnt d (T.sub j k)).2) q)) ∧ Below w2.heap.size w2 w')
        case atStart => exact ⟨0, 0, 0, by omega, rfl, rfl, rfl, by unfold Hid; simp [sumUp], by unfold Hid; simp [sumUp], Below.refl _ _⟩
        case round =>
          obtain ⟨q, n, ch, hq, rfl, rfl, rfl, Hn, Hch, hb3⟩ := hrel
          have hn1 : n ≤ most := by rw [Hn.out]; omega
          have hch1 : ch ≤ most := by rw [Hch.out]; omega
          have k2' := cell_below hb3 k2
          by_cases hqm : q < T.M j
          · rcases HO.out with h | ⟨b', o', rfl, hlo', hopt⟩
            · omega
            · obtain ⟨v', cq, hat⟩ := hopt q hqm
              have hB3 : Below w.heap.size w wr := hal2.trans (hb3.mono hal2.size)
              have dq := cell_below hB3 cq
              have hcall := IH.out v' (T.sub j q) wr lo (hat.below hB3)
              clear hopt cq hat hB3
              go_upto_region 13 with (go_at_call 34; refine hcall.mono ?_; rintro e w4 ⟨on, oc', rfl, hone, hoc, hb4⟩)
              have hon1 : on ≤ most := by rw [hone.out]; omega
              have hoc1 : oc' ≤ most := by rw [hoc.out]; omega
              have Hkey : Hid (G n on = min most (sumUp (fun k => (cnt d (T.sub j k)).1) (q + 1)) ∧ G ch oc' = min most (sumUp (fun k => (cnt d (T.sub j k)).2) (q + 1))) := by
                refine ⟨?_, ?_⟩
                · rw [HG.out]; exact cap_add (by rw [Hn.out, cap_idem]) (by rw [hone.out, cap_idem])
                · rw [HG.out]; exact cap_add (by rw [Hch.out, cap_idem]) (by rw [hoc.out, cap_idem])
              clear hone hoc dq hcall k2'
              go_wp2_with (go_at_call 20; refine (hA _ _ _ (by assumption) (by assumption)).mono ?_; rintro e w' ⟨rfl, rfl⟩)
              go_roundg (gk - 1)
              case measure => omega
              case rel => exact ⟨q + 1, G n on, G ch oc', by omega, by go_num, rfl, rfl, Hkey.out.1, Hkey.out.2, hb3.trans (hb4.mono hb3.size)⟩
          · obtain rfl : T.M j = q := by omega
            go_wp2
            refine bodyPost_ret (v := .tuple #[.int .i64 n, .int .i64 ch]) ?_ rfl ⟨n, ch, rfl, ?_, ?_, hal2.trans (hb3.mono hal2.size)⟩
            · simp [results, Try.results38, go_sem]
            · unfold Hid; rw [HN2.out, Hn.out]
            · unfold Hid; rw [HCn.out, Hch.out]
    · have g4 : (T.K j == 4) = false := by simp [h4]
      have HW : Hid (R1 = min most (Pn d T j) ∧ R1 = min most (Cn d T j)) := ⟨by rw [HR1.out]; simp [Pn, np, h3, h4], by rw [HR1.out]; simp [Cn, nc, h3, h4]⟩
      clear h3 h4
      go_enter Try.func38, Try.ntmps38
      go_wp2_with (go_at_call 21; refine (hs1 _).mono ?_; rintro e w' ⟨rfl, rfl⟩)
      refine bodyPost_ret (v := .tuple #[.int .i64 R1, .int .i64 R1]) ?_ rfl ⟨R1, R1, rfl, HW.out.1, HW.out.2, hal _⟩
      simp [results, Try.results38, go_sem]

end Go.Proofs.Qxb6602406a.Spell
