/-
  Seat b6602406a: the walks of satOf, satAdd, satMul.
-/
import Derived.Test.Qxb6602406aSplMath
namespace Go.Proofs.Qxb6602406a.Spell
open Go.RowKit

set_option maxRecDepth 100000 in
theorem satOf_any (x most : Nat) (w : World) :
    Calls Try.prog 21 #[.int .i64 x, .int .i64 most] w fun e w' => e = .returned (.int .i64 ((min most x : Nat) : Int)) ∧ w = w' := by
  by_cases h : most < x
  · have hd : decide (most < x) = true := by simp [h]
    have e : min most x = most := by omega
    rw [e]
    clear e h
    go_enter Try.func21, Try.ntmps21
    go_wp2
    go_ret
    exact ⟨rfl, rfl⟩
  · have hd : decide (most < x) = false := by simp; omega
    have e : min most x = x := by omega
    rw [e]
    clear e h
    go_enter Try.func21, Try.ntmps21
    go_wp2
    go_ret
    exact ⟨rfl, rfl⟩

set_option maxRecDepth 100000 in
theorem satAdd_any (a b most : Nat) (w : World) (ha : a ≤ 4611686018427387903) (hb : b ≤ 4611686018427387903) :
    Calls Try.prog 20 #[.int .i64 a, .int .i64 b, .int .i64 most] w fun e w' => e = .returned (.int .i64 ((min most (a + b) : Nat) : Int)) ∧ w = w' := by
  have hs := satOf_any (a + b) most w
  rw [Int.natCast_add] at hs
  go_enter Try.func20, Try.ntmps20
  go_wp2_with (go_at_call 21; refine hs.mono ?_; rintro e w' ⟨rfl, rfl⟩)
  go_ret
  exact ⟨rfl, rfl⟩

set_option maxRecDepth 100000 in
theorem satMul_any (a b most : Nat) (w : World) (ha : a ≤ 4611686018427387903) (hb : b ≤ 4611686018427387903) (hm : most ≤ 4611686018427387903) :
    Calls Try.prog 19 #[.int .i64 a, .int .i64 b, .int .i64 most] w fun e w' => e = .returned (.int .i64 ((min most (a * b) : Nat) : Int)) ∧ w = w' := by
  by_cases h0 : a = 0
  · subst h0
    rw [Nat.zero_mul, Nat.min_zero]
    go_enter Try.func19, Try.ntmps19
    go_wp2
    go_ret
    exact ⟨rfl, rfl⟩
  · have g0 : ((a : Int) == 0) = false := by simp; omega
    by_cases h1 : b = 0
    · subst h1
      rw [Nat.mul_zero, Nat.min_zero]
      go_enter Try.func19, Try.ntmps19
      go_wp2
      go_ret
      exact ⟨rfl, rfl⟩
    · have g1 : ((b : Int) == 0) = false := by simp; omega
      obtain ⟨Q, HQ⟩ : ∃ Q, Hid (Q = most / a) := ⟨_, rfl⟩
      have hQ : Q ≤ 4611686018427387903 := by rw [HQ.out]; exact Nat.le_trans (Nat.div_le_self _ _) hm
      have q1 : IntKind.i64.wrap ((most : Int) / (a : Int)) = (Q : Int) := by rw [← Int.natCast_ediv, ← HQ.out]; exact IntWalk.i64_in _ (by omega)
      have q2 : wrap64 ((most : Int) / (a : Int)) = (Q : Int) := by rw [← IntWalk.i64_left]; exact q1
      by_cases hb2 : Q < b
      · have g2 : decide (Q < b) = true := by simp [hb2]
        have e : min most (a * b) = most := by
          have h2 : a * (Q + 1) ≤ a * b := Nat.mul_le_mul_left a hb2
          have h3 : most < a * (Q + 1) := by rw [HQ.out]; have := Nat.lt_mul_div_succ most (show 0 < a by omega); exact this
          omega
        rw [e]
        clear e hb2
        go_enter Try.func19, Try.ntmps19
        go_wp2
        go_ret
        exact ⟨rfl, rfl⟩
      · have g2 : decide (Q < b) = false := by simp; omega
        obtain ⟨X, HX⟩ : ∃ X, Hid (X = a * b) := ⟨_, rfl⟩
        have hX : X ≤ most := by
          rw [HX.out]
          have h2 : a * b ≤ a * Q := Nat.mul_le_mul_left a (by omega)
          have h3 : a * Q ≤ most := by rw [HQ.out]; exact Nat.mul_div_le most a
          omega
        have x1 : IntKind.i64.wrap ((a : Int) * (b : Int)) = (X : Int) := by rw [← Int.natCast_mul, ← HX.out]; exact IntWalk.i64_in _ (by omega)
        have x2 : wrap64 ((a : Int) * (b : Int)) = (X : Int) := by rw [← IntWalk.i64_left]; exact x1
        have e : min most (a * b) = X := by have := HX.out; omega
        rw [e]
        clear hb2 e
        go_enter Try.func19, Try.ntmps19
        go_wp2
        go_ret
        exact ⟨rfl, rfl⟩

end Go.Proofs.Qxb6602406a.Spell
