/-
  THE WALK of FnAbsIntIsMagnitude (function 4): the callees (ZZabsInt, absInt, zzIsMagnitude) are walked in place; every test that the walk parts on is closed by linear arithmetic over the two wraps.
-/
import Derived.Test.Qxb6619249aRows
import Derived.WalkKit
import Derived.RowKit3
namespace Go.Proofs.Qxb6619249a.Abs
open Go.RowKit

set_option maxHeartbeats 400000 in
theorem walk (a : Int) (h0 : -9223372036854775808 ≤ a) (h1 : a ≤ 9223372036854775807) (w : World) :
    Calls Try.prog 4 #[.int .i64 a] w fun e w' => e = .returned (.bool true) ∧ w' = w := by
  go_enter Try.func4, Try.ntmps4
  go_wp2
  all_goals first
    | (go_ret
       exact ⟨rfl, rfl⟩)
    | (exfalso
       simp only [IntKind.wrap_u64, wrap64] at *
       omega)

end Go.Proofs.Qxb6619249a.Abs
