/-
  THE WALK of FnGcdGreatestAndScales (function 5), out of ZZgcd's contract and the plain law.
-/
import Derived.Test.Qxb6619249aGcdWalks
namespace Go.Proofs.Qxb6619249a.Gcd
open Go.RowKit
set_option linter.unusedVariables false      -- the walk takes the bounds by itself: not by their names

/-- the third call: gcd(k*a, k*b), where both products fit, is k*g -/
theorem scaled (a b k : Int) (a0 : 0 ≤ a) (b0 : 0 ≤ b) (k0 : 0 ≤ k) (x y : Int) (hx : x = IntKind.u64.wrap (k * a)) (hy : y = IntKind.u64.wrap (k * b))
    (ha : a = 0 ∨ k ≤ 18446744073709551615 / a) (hb : b = 0 ∨ k ≤ 18446744073709551615 / b) (w : World) :
    Calls Try.prog 11 #[.int .u64 x, .int .u64 y] w fun e w' => e = .returned (.int .u64 (IntKind.u64.wrap (k * gcdI a b))) ∧ ∃ n, w' = w.drewN n := by
  have f1 := fits a k 18446744073709551615 a0 (by omega) ha
  have f2 := fits b k 18446744073709551615 b0 (by omega) hb
  have p1 := Int.mul_nonneg k0 a0
  have p2 := Int.mul_nonneg k0 b0
  have f3 := fits_gcd a b k 18446744073709551615 a0 b0 k0 f1 f2
  have p3 := Int.mul_nonneg k0 (gcdI_nonneg a b)
  rw [IntWalk.u64_in _ ⟨p1, f1⟩] at hx
  rw [IntWalk.u64_in _ ⟨p2, f2⟩] at hy
  rw [IntWalk.u64_in _ ⟨p3, f3⟩, ← gcdI_scale a b k k0]
  subst hx hy
  exact zzgcd_any _ _ p1 f1 p2 f2 w

set_option maxHeartbeats 1600000 in
theorem law_core (a b d k g : Int) (a0 : 0 ≤ a) (a1 : a ≤ 18446744073709551615) (b0 : 0 ≤ b) (b1 : b ≤ 18446744073709551615) (d0 : 0 ≤ d) (d1 : d ≤ 18446744073709551615) (k0 : 0 ≤ k) (k1 : k ≤ 18446744073709551615)
    (hab : (a = 0 ∧ 1 ≤ b) ∨ (b = 0 ∧ 1 ≤ a) ∨ (1 ≤ a ∧ 1 ≤ b))
    (g0 : 1 ≤ g) (g1 : g ≤ 18446744073709551615) (ga : a % g = 0) (gb : b % g = 0)
    (hd : a % d = 0 → b % d = 0 → g % d = 0)
    (c1 : ∀ w, Calls Try.prog 11 #[.int .u64 a, .int .u64 b] w fun e w' => e = .returned (.int .u64 g) ∧ ∃ n, w' = w.drewN n)
    (c2 : ∀ w, Calls Try.prog 11 #[.int .u64 b, .int .u64 a] w fun e w' => e = .returned (.int .u64 g) ∧ ∃ n, w' = w.drewN n)
    (c3 : ∀ x y, x = IntKind.u64.wrap (k * a) → y = IntKind.u64.wrap (k * b) → (a = 0 ∨ k ≤ 18446744073709551615 / a) → (b = 0 ∨ k ≤ 18446744073709551615 / b) → ∀ w, Calls Try.prog 11 #[.int .u64 x, .int .u64 y] w fun e w' => e = .returned (.int .u64 (IntKind.u64.wrap (k * g))) ∧ ∃ n, w' = w.drewN n)
    (w : World) :
    Calls Try.prog 5 #[.int .u64 a, .int .u64 b, .int .u64 d, .int .u64 k] w fun e w' => e = .returned (.bool true) ∧ ∃ n, w' = w.drewN n := by
  have C1 : Hid _ := c1
  have C2 : Hid _ := c2
  have C3 : Hid _ := c3
  clear c1 c2 c3
  have HD : Hid _ := hd
  clear hd
  rcases hab with ⟨rfl, hb⟩ | ⟨rfl, ha⟩ | ⟨ha, hb⟩
  all_goals
    go_enter Try.func5, Try.ntmps5
    go_wp2_with fail
    refine (C1.out _).mono ?_
    rintro e w' ⟨rfl, n, rfl⟩
    go_wp2_with fail
    refine (C2.out _).mono ?_
    rintro e w' ⟨rfl, m, rfl⟩
    go_wp2_with fail
  -- the ways that are left: the false 'return' (which the plain law shuts out), the third call, the true 'return'
  all_goals first
    | (go_at_call 11
       refine (C3.out _ _ (by first | rfl | (rw [Int.mul_zero]; rfl)) (by first | rfl | (rw [Int.mul_zero]; rfl)) ?_ ?_ _).mono ?_
       · first | exact Or.inl rfl | exact Or.inl trivial | exact Or.inr (by assumption)
       · first
           | exact Or.inl rfl
           | exact Or.inl trivial
           | (have hq : (k != 0) = true ∧ k ≤ 18446744073709551615 / b := by assumption
              exact Or.inr hq.2)
           | (have hq : (k != 0) = true ∧ ((b == 0) = true ∨ k ≤ 18446744073709551615 / b) := by assumption
              rcases hq.2 with h | h
              · exact Or.inl (by simpa using h)
              · exact Or.inr h)
       · rintro e w' ⟨rfl, j, rfl⟩
         go_wp2
         go_ret
         exact ⟨rfl, _, rfl⟩)
    | (exfalso
       have hz := HD.out (by first | assumption | exact Int.zero_emod d) (by first | assumption | exact Int.zero_emod d)
       have hq : (d != 0) = true ∧ (g % d != 0) = true := by assumption
       rw [hz] at hq
       exact absurd hq.2 (by decide))
    | (go_ret
       exact ⟨rfl, _, rfl⟩)

end Go.Proofs.Qxb6619249a.Gcd
