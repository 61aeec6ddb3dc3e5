/-
  Seat b6602406a: FnSpelledCountsExpansions, walked.
-/
import Derived.Test.Qxb6602406aSplGlob
import Derived.Test.Qxb6602406aSplSpell
import Derived.Test.Qxb6602406aSplModSeq
namespace Go.Proofs.Qxb6602406a.Spell
open Go.RowKit

theorem zzSpelled_any (most : Nat) (hm : most ≤ 4611686018427387903) (d : Nat) (v : Value) (T : Tree) (w : World) (lo : Nat) (h : At 4 3 w lo d v T) :
    Calls Try.prog 16 #[v, .int .i64 most] w fun e w' => ∃ p c : Nat, e = .returned (.tuple #[.int .i64 p, .int .i64 c]) ∧ One most d T p ∧ Hid (c = min most (cnt d T).2) ∧ Below w.heap.size w w' := by
  have hcall := spelled_any most hm d v T w lo h
  obtain ⟨ao, c, rfl⟩ := h.slice
  clear h
  go_enter Try.func16, Try.ntmps16
  go_wp2_with (go_at_call 32; refine hcall.mono ?_; rintro e w' ⟨p, ch, rfl, h1, h2, h3⟩)
  refine bodyPost_ret (v := .tuple #[.int .i64 p, .int .i64 ch]) ?_ rfl ⟨p, ch, rfl, h1, h2, h3⟩
  simp [results, Try.results16, go_sem]

theorem modelSpelled_any (most : Nat) (hm : most ≤ 4611686018427387903) (d : Nat) (v : Value) (T : Tree) (w : World) (lo : Nat) (h : At 3 2 w lo d v T) :
    Calls Try.prog 18 #[v, .int .i64 most] w fun e w' => ∃ p c : Nat, e = .returned (.tuple #[.int .i64 p, .int .i64 c]) ∧ One most d T p ∧ Hid (c = min most (cnt d T).2) ∧ Below w.heap.size w w' := by
  have hcall := modelSeq_any most hm d v T w lo h
  obtain ⟨ao, c, rfl⟩ := h.slice
  by_cases h0 : T.N = 0
  · have g : ((T.N : Int) == 0) = true := by simp [h0]
    have H1 : Hid (One most d T 1) := by unfold Hid One; rw [if_pos h0]
    have H2 : Hid (0 = min most (cnt d T).2) := by
      unfold Hid
      cases d with
      | zero => exact h.elim
      | succ d => rw [cnt_succ, h0]; simp [chrUp]
    clear h h0 hcall
    go_enter Try.func18, Try.ntmps18
    go_wp2
    refine bodyPost_ret (v := .tuple #[.int .i64 1, .int .i64 0]) ?_ rfl ⟨1, 0, rfl, H1.out, H2.out, Below.refl _ _⟩
    simp [results, Try.results18, go_sem]
  · have g : ((T.N : Int) == 0) = false := by simp [h0]
    have H1 : Hid (∀ p, p = min most (cnt d T).1 → One most d T p) := fun p hp => by unfold One; rw [if_neg h0]; exact hp
    clear h h0
    go_enter Try.func18, Try.ntmps18
    go_wp2_with (go_at_call 34; refine hcall.mono ?_; rintro e w' ⟨p, ch, rfl, h1, h2, h3⟩)
    refine bodyPost_ret (v := .tuple #[.int .i64 p, .int .i64 ch]) ?_ rfl ⟨p, ch, rfl, H1.out p h1.out, h2, h3⟩
    simp [results, Try.results18, go_sem]

set_option maxRecDepth 100000 in
set_option maxHeartbeats 2000000 in
theorem law5 (d : Nat) (v : Value) (T : Tree) (x : Int) (w : World) (lo : Nat) (h : At 3 2 w lo d v T) :
    Calls Try.prog 5 #[v, .int .i64 x] w fun e w' => e = .returned (.bool true) ∧ Below w.heap.size w w' := by
  have ht := tokBytes_any d v T 0 w lo h
  have HA : Hid (At 3 2 w lo d v T) := h
  by_cases hx0 : x < 0
  · obtain ⟨ao, c, rfl⟩ := h.slice
    clear h HA
    have g : decide (x < 0) = true := by simp [hx0]
    go_enter Try.func5, Try.ntmps5
    go_wp2_with (go_at_call 14; refine ht.mono ?_; rintro e w' ⟨r, rfl, hb⟩)
    all_goals
     go_ret
     exact ⟨rfl, hb⟩
  · by_cases hx1 : 4611686018427387903 < x
    · obtain ⟨ao, c, rfl⟩ := h.slice
      clear h HA
      have g0 : decide (x < 0) = false := by simp [hx0]
      have g : decide (4611686018427387903 < x) = true := by simp [hx1]
      go_enter Try.func5, Try.ntmps5
      go_wp2_with (go_at_call 14; refine ht.mono ?_; rintro e w' ⟨r, rfl, hb⟩)
      all_goals
       go_ret
       exact ⟨rfl, hb⟩
    · obtain ⟨most, rfl⟩ : ∃ most : Nat, x = (most : Int) := ⟨x.toNat, by omega⟩
      have hm : most ≤ 4611686018427387903 := by omega
      have g0 : decide ((most : Int) < 0) = false := by simp
      have g1 : decide ((4611686018427387903 : Int) < (most : Int)) = false := by simp; omega
      obtain ⟨ao, c, rfl⟩ := h.slice
      clear h hx0 hx1
      go_enter Try.func5, Try.ntmps5
      go_upto_region 5 with (go_at_call 14; refine ht.mono ?_; rintro e w1 ⟨r, rfl, hb1⟩)
      · go_ret
        exact ⟨rfl, hb1⟩
      · have hcp := copyToks_any d _ T w1 lo (HA.out.below hb1)
        clear ht
        go_upto_region 6 with (go_at_call 15; refine hcp.mono ?_; rintro e w2 ⟨v2, rfl, hat2, hb2⟩)
        have htg := toGlob_any d _ T w2 _ hat2
        have HA2 : Hid (At 3 2 w2 w1.heap.size d v2 T) := hat2
        obtain ⟨a2, c2, rfl⟩ := hat2.slice
        clear hat2 hcp
        go_upto_region 7 with (first | (go_at_call 17; refine htg.mono ?_; rintro e w3 ⟨v3, rfl, hat3, hb3⟩; have hsp := zzSpelled_any most hm d _ T w3 _ hat3; obtain ⟨a3, c3, rfl⟩ := hat3.slice; clear hat3) | (go_at_call 16; refine hsp.mono ?_; rintro e w4 ⟨p, ch, rfl, hp, hc, hb4⟩))
        have hms := modelSpelled_any most hm d _ T w4 _ ((HA2.out.below hb3).below hb4)
        have HB : Hid (Below w.heap.size w w4) := ((hb1.trans (hb2.mono hb1.size)).trans (hb3.mono (Nat.le_trans hb1.size hb2.size))).trans (hb4.mono (Nat.le_trans (Nat.le_trans hb1.size hb2.size) hb3.size))
        have HP : Hid (One most d T p) := hp
        clear hsp htg hp
        go_upto_region 8 with (go_at_call 18; refine hms.mono ?_; rintro e w5 ⟨p', ch', rfl, hp', hc', hb5⟩)
        obtain rfl : p' = p := by have h1 := HP.out; unfold One at h1 hp'; rw [h1, hp']
        obtain rfl : ch' = ch := by rw [hc.out, hc'.out]
        clear hp' hc hc' hms HP
        go_wp2
        go_ret
        exact ⟨rfl, HB.out.trans (hb5.mono HB.out.size)⟩

end Go.Proofs.Qxb6602406a.Spell
