/-
  THE WALKS of decimal.gcd (function 14) and its shim ZZgcd (function 11): each hands back the greatest common divisor; the world has but drawn.
-/
import Derived.Test.Qxb6619249aRows
import Derived.Test.Qxb6619249aGcdPlain
import Derived.WalkKit
import Derived.BigRegion
import Derived.RowKit3
import Derived.Deep.Draws
namespace Go.Proofs.Qxb6619249a.Gcd
open Go.RowKit

set_option maxHeartbeats 800000 in
theorem gcd_any (a0 b0 : Int) (ha0 : 0 ≤ a0) (ha1 : a0 ≤ 18446744073709551615) (hb0 : 0 ≤ b0) (hb1 : b0 ≤ 18446744073709551615) (w : World) :
    Calls Try.prog 14 #[.int .u64 a0, .int .u64 b0] w fun e w' => e = .returned (.int .u64 (gcdI a0 b0)) ∧ ∃ n, w' = w.drewN n := by
  go_enter Try.func14, Try.ntmps14
  go_wp2
  go_loopw [0, 1] (fun va vb wr => ∃ a b : Int, va = .int .u64 a ∧ vb = .int .u64 b ∧ 0 ≤ a ∧ a ≤ 18446744073709551615 ∧ 0 ≤ b ∧ b ≤ 18446744073709551615 ∧ Hid (gcdI a b = gcdI a0 b0) ∧ ∃ n, wr = w.drewN n) (fun _ vb _ => (intOf vb).natAbs)
  case atStart => exact ⟨a0, b0, rfl, rfl, ha0, ha1, hb0, hb1, rfl, 0, rfl⟩
  case round =>
    obtain ⟨a, b, rfl, rfl, h1, h2, h3, h4, hg, n, rfl⟩ := hrel
    have hm0 : b ≠ 0 → 0 ≤ a % b := fun h => Int.emod_nonneg a h
    have hm1 : b ≠ 0 → a % b < b := fun h => Int.emod_lt_of_pos a (by omega)
    by_cases hz : b = 0
    · subst hz
      go_wp2
      go_ret
      refine ⟨?_, n, rfl⟩
      rw [← hg.out, gcdI_nil a h1]
      rfl
    · replace hm0 := hm0 hz
      replace hm1 := hm1 hz
      go_wp2
      go_region
      all_goals (try go_wp2)
      all_goals (
        go_roundw
        case rel => exact ⟨b, a % b, rfl, rfl, h3, h4, hm0, by omega, (gcdI_step a b h1 h3).trans hg.out, n + 1, rfl⟩
        case measure => simp [intOf]; omega)

theorem zzgcd_any (a0 b0 : Int) (ha0 : 0 ≤ a0) (ha1 : a0 ≤ 18446744073709551615) (hb0 : 0 ≤ b0) (hb1 : b0 ≤ 18446744073709551615) (w : World) :
    Calls Try.prog 11 #[.int .u64 a0, .int .u64 b0] w fun e w' => e = .returned (.int .u64 (gcdI a0 b0)) ∧ ∃ n, w' = w.drewN n := by
  go_enter Try.func11, Try.ntmps11
  go_wp2_with (go_at_call 14; refine (gcd_any a0 b0 ha0 ha1 hb0 hb1 _).mono ?_; rintro e w' ⟨rfl, n, rfl⟩)
  go_ret
  exact ⟨rfl, _, rfl⟩

end Go.Proofs.Qxb6619249a.Gcd
