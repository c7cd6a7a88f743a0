/-
  THE LAW FnGcdGreatestAndScales for every four words: both arguments 0 (the early return), or the core.
-/
import Derived.Test.Qxb6619249aGcdLaw
namespace Go.Proofs.Qxb6619249a.Gcd
open Go.RowKit

theorem law_nil (d k : Int) (w : World) :
    Calls Try.prog 5 #[.int .u64 0, .int .u64 0, .int .u64 d, .int .u64 k] w fun e w' => e = .returned (.bool true) ∧ ∃ n, w' = w.drewN n := by
  go_enter Try.func5, Try.ntmps5
  go_wp2
  go_ret
  exact ⟨rfl, 0, rfl⟩

theorem law (a b d k : Int) (a0 : 0 ≤ a) (a1 : a ≤ 18446744073709551615) (b0 : 0 ≤ b) (b1 : b ≤ 18446744073709551615) (d0 : 0 ≤ d) (d1 : d ≤ 18446744073709551615) (k0 : 0 ≤ k) (k1 : k ≤ 18446744073709551615) (w : World) :
    Calls Try.prog 5 #[.int .u64 a, .int .u64 b, .int .u64 d, .int .u64 k] w fun e w' => e = .returned (.bool true) ∧ ∃ n, w' = w.drewN n := by
  by_cases hz : a = 0 ∧ b = 0
  · obtain ⟨rfl, rfl⟩ := hz
    exact law_nil d k w
  · have hn : a ≠ 0 ∨ b ≠ 0 := by omega
    exact law_core a b d k (gcdI a b) a0 a1 b0 b1 d0 d1 k0 k1 (by omega) (gcdI_pos a b hn) (gcdI_le a b _ a0 b0 a1 b1) (gcdI_left a b) (gcdI_right a b) (gcdI_greatest a b d)
      (fun w => zzgcd_any a b a0 a1 b0 b1 w)
      (fun w => by rw [← gcdI_flip a b]; exact zzgcd_any b a b0 b1 a0 a1 w)
      (fun x y hx hy ha hb w => scaled a b k a0 b0 k0 x y hx hy ha hb w) w

end Go.Proofs.Qxb6619249a.Gcd
