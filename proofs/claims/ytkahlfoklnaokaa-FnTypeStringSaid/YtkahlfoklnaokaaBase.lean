/-
  Small laws for the walks of this seat: nothing of a single function stands here.
-/
import Derived.Test.YtkahlfoklnaokaaRows
import Derived.WalkKit
import Derived.WalkSpells
import Derived.WalkLawsBesides
namespace Go.Proofs.Ytkahlfoklnaokaa
open Go.RowKit

theorem and3 (a : Int) : bits .and .i64 a 3 = a % 4 := by
  have h : (BitVec.ofInt 64 a &&& BitVec.ofInt 64 3).toNat = (a % 4).toNat := by
    rw [BitVec.toNat_and]
    have h3 : (BitVec.ofInt 64 3).toNat = 2 ^ 2 - 1 := by decide
    rw [h3, Nat.and_two_pow_sub_one_eq_mod]
    simp only [BitVec.toNat_ofInt]
    omega
  show IntKind.i64.wrap ((BitVec.ofInt 64 a &&& BitVec.ofInt 64 3).toNat : Int) = _
  rw [h]
  have := IntWalk.i64_in (((a % 4).toNat : Nat) : Int) (by omega)
  rw [this]; omega

end Go.Proofs.Ytkahlfoklnaokaa
