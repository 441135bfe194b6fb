/-
  The contract of impl.dimOf.
-/
import Derived.Test.YtkahlfoklnaokaaBase
namespace Go.Proofs.Ytkahlfoklnaokaa
open Go.RowKit

set_option maxHeartbeats 400000 in
theorem dimOf_any (a : Int) (w : World) : Calls Try.prog 25 #[.int .i64 a] w fun e w' => e = .returned (.int .u8 (a % 4)) ∧ w' = w := by
  have h3 := and3 a
  have h4 : a % 4 % 256 = a % 4 := by omega
  go_enter Try.func25, Try.ntmps25
  go_wp2
  go_ret
  exact ⟨rfl, rfl⟩
end Go.Proofs.Ytkahlfoklnaokaa
